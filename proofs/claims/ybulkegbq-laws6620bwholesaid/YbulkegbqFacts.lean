import Derived.Test.YbulkegbqLoad
namespace Go.Proofs.Ybulkegbq.lawS6620BWhole
open Go.RowKit
set_option linter.unusedVariables false

def kidCells (i : Nat) : Array Value := #[.pointer none, .int .u16 0, .int .u16 0, .bool false, .bool false, .bool false, .bool false, .int .u32 (i : Int), .int .u32 0, .pointer none, .pointer none, .int .u32 0, .int .u32 0]

/-- Cell i of the children's row holds nil, or a pointer to a node of its own whose start is i. -/
def KidAt (wr : World) (K0 k i : Nat) (v : Value) : Prop :=
  v = .pointer none ∨ ∃ b, i < k ∧ K0 < b ∧ v = .pointer (some ⟨b, 0, none⟩) ∧ wr.heap[b]? = some (.cells (kidCells i) 32 (0, 0))

/-- The children's row behind k rounds. -/
structure Kids (w : World) (K0 len k : Nat) (wr : World) : Prop where
  below : Below K0 w wr
  row : ∃ c : Array Value, wr.heap[K0]? = some (.cells c 26 (0, 0)) ∧ c.size = len ∧ ∀ i v, c[i]? = some v → KidAt wr K0 k i v

theorem lt_of_some {w : World} {b : Nat} {o : Obj} (h : w.heap[b]? = some o) : b < w.heap.size := (Array.getElem?_eq_some_iff.1 h).1

theorem Kids.start (w : World) (K0 len : Nat) (hK : K0 = w.heap.size) : Kids w K0 len 0 (w.alloc (.cells (madeCells #[.pointer none] len) 26)) := by
  subst hK
  refine ⟨(Below.refl _ _).alloc (Nat.le_refl _) _, madeCells #[.pointer none] len, ?_, size_madeCells _ _, fun i v hv => .inl ?_⟩
  · show (w.heap.push _)[w.heap.size]? = _
    simp
  · unfold madeCells at hv
    simp only [Array.getElem?_map] at hv
    obtain ⟨j, hj, rfl⟩ := Option.map_eq_some_iff.1 hv
    show #[Value.pointer none][j % 1]! = _
    rw [Nat.mod_one]
    rfl

theorem Kids.skip {w wr : World} {K0 len k : Nat} (h : Kids w K0 len k wr) : Kids w K0 len (k + 1) wr := by
  obtain ⟨c, h1, h2, h3⟩ := h.row
  refine ⟨h.below, c, h1, h2, fun i v hv => ?_⟩
  rcases h3 i v hv with rfl | ⟨b, hi, hb, rfl, hc⟩
  · exact .inl rfl
  · exact .inr ⟨b, by omega, hb, rfl, hc⟩

theorem Kids.lt {w wr : World} {K0 len k : Nat} (h : Kids w K0 len k wr) : K0 < wr.heap.size := by
  obtain ⟨c, h1, h2, h3⟩ := h.row
  exact lt_of_some h1

theorem Kids.store {w wr : World} {K0 len k : Nat} (h : Kids w K0 len k wr) (hk : k < len) :
    Kids w K0 len (k + 1) ((wr.setCell ⟨K0, k, none⟩ (.pointer (some ⟨wr.heap.size, 0, none⟩))).alloc (.cells (kidCells k) 32)) := by
  have hlt := h.lt
  obtain ⟨c, h1, h2, h3⟩ := h.row
  have hs : (wr.setCell ⟨K0, k, none⟩ (.pointer (some ⟨wr.heap.size, 0, none⟩))).heap.size = wr.heap.size := by simp
  refine ⟨((h.below.setCell (p := ⟨K0, k, none⟩) (Nat.le_refl _) _).alloc (by rw [hs]; omega) _), c.setIfInBounds k (.pointer (some ⟨wr.heap.size, 0, none⟩)), ?_, by simpa using h2, fun i v hv => ?_⟩
  · rw [Below.heap_alloc _ _ _ (by rw [hs]; exact hlt)]
    simp only [World.setCell, Array.getElem?_modify, h1]
    simp
  · have hnew : ((wr.setCell ⟨K0, k, none⟩ (.pointer (some ⟨wr.heap.size, 0, none⟩))).alloc (.cells (kidCells k) 32)).heap[wr.heap.size]? = some (.cells (kidCells k) 32 (0, 0)) := by
      show ((wr.setCell ⟨K0, k, none⟩ (.pointer (some ⟨wr.heap.size, 0, none⟩))).heap.push _)[wr.heap.size]? = _
      rw [Array.getElem?_push, if_pos hs.symm]
    rw [Array.getElem?_setIfInBounds] at hv
    by_cases hik : k = i
    · subst hik
      rw [if_pos rfl, if_pos (by omega)] at hv
      simp at hv; subst hv
      exact .inr ⟨wr.heap.size, by omega, hlt, rfl, hnew⟩
    · rw [if_neg hik] at hv
      rcases h3 i v hv with rfl | ⟨b, hi, hb, rfl, hc⟩
      · exact .inl rfl
      · refine .inr ⟨b, by omega, hb, rfl, ?_⟩
        rw [Below.heap_alloc _ _ _ (by rw [hs]; exact lt_of_some hc), Below.heap_setCell _ _ _ _ (by show b ≠ K0; omega)]
        exact hc

theorem Kids.cell {w wr : World} {K0 len k : Nat} (h : Kids w K0 len k wr) (hk : k < len) : ∃ v, wr.cell? ⟨K0, k, none⟩ = some v := by
  obtain ⟨c, h1, h2, h3⟩ := h.row
  exact ⟨c[k], by simp [World.cell?, h1, h2, hk]⟩
theorem Kids.free {w wr : World} {K0 len k : Nat} (h : Kids w K0 len k wr) (j : Nat) : wr.frozen? ⟨K0, j, none⟩ = false := by
  obtain ⟨c, h1, h2, h3⟩ := h.row
  simp [World.frozen?, h1]

theorem info26 : (Yba.prog.info? 26).map (fun i => (i.zero, i.size, i.bytes)) = some (some (.pointer none), 1, 8) := by kernel_rfl
theorem mk25 (w : World) (n : Nat) (hn : n ≤ 1048576) : (Instr.makeSlice 25 (.int .i64 n) (.int .i64 n)).run Yba.prog w = .ok (.slice (some ⟨w.heap.size, 0, none⟩) n n) (w.alloc (.cells (madeCells #[.pointer none] n) 26)) := by
  obtain ⟨i, hi, hz0, hz1, hz2⟩ := info_parts info26
  have := run_make (P := Yba.prog) w 25 26 i (.pointer none) Yba.underlying25 hi hz0 .i64 .i64 n n (by omega) (by omega) (by rw [hz2]; omega) (by omega)
  simpa [hz1, Value.cells] using this

theorem one_of {wr : World} {K0 k i : Nat} {v : Value} (h : KidAt wr K0 k i v) : v.oneCell' = true := by
  rcases h with rfl | ⟨b, _, _, rfl, _⟩ <;> rfl

/-- The children, the row of their copies and the nodes, in a later world. -/
structure Kin (w' : World) (K0 B0 n : Nat) : Prop where
  at_ : ∀ i, i < n → (w'.cell? ⟨K0, i, none⟩ = some (.pointer none) ∧ w'.cell? ⟨B0, i, none⟩ = some (.pointer none)) ∨
    ∃ b, w'.cell? ⟨K0, i, none⟩ = some (.pointer (some ⟨b, 0, none⟩)) ∧ w'.cell? ⟨B0, i, none⟩ = some (.pointer (some ⟨b, 0, none⟩)) ∧ ∀ j v, (kidCells i)[j]? = some v → w'.cell? ⟨b, j, none⟩ = some v

theorem World.ext_heap {a b : World} (h1 : a.heap = b.heap) (h2 : a.tape = b.tape) (h3 : a.drawn = b.drawn) (h4 : a.os = b.os) (h5 : a.output = b.output) : a = b := by
  cases a; cases b; simp_all

theorem setRow_new (w : World) (z c : Array Value) (t nq : Nat) : ((w.alloc (.cells z t)).drewN nq).setRow w.heap.size c = (w.alloc (.cells c t)).drewN nq := by
  have e : (((w.alloc (.cells z t)).drewN nq).setRow w.heap.size c).heap = ((w.alloc (.cells c t)).drewN nq).heap := by
    apply Array.ext_getElem?
    intro b
    simp only [World.setRow, World.heap_drewN, World.alloc, Array.getElem?_modify, Array.getElem?_push]
    by_cases hb : w.heap.size = b
    · subst hb; simp
    · have hb' : ¬ b = w.heap.size := fun h => hb h.symm
      simp [hb, hb']
  exact World.ext_heap e rfl rfl rfl rfl

theorem copy_run {w wr : World} {K0 len k : Nat} (h : Kids w K0 len k wr) :
    ∃ c, (∀ nq, (Builtin.copy_ #[25, 25] 3 #[.slice (some ⟨wr.heap.size, 0, none⟩) len len, .slice (some ⟨K0, 0, none⟩) len len]).run Yba.prog ((wr.alloc (.cells (madeCells #[.pointer none] len) 26)).drewN nq) = .ok (.int .i64 len) ((wr.alloc (.cells c 26)).drewN nq)) ∧
      ∀ w', (∀ b, K0 ≤ b → b < wr.heap.size + 1 → w'.heap[b]? = (wr.alloc (.cells c 26)).heap[b]?) → Kin w' K0 wr.heap.size len := by
  have hlt := h.lt
  obtain ⟨c, h1, h2, h3⟩ := h.row
  refine ⟨c, fun nq => ?_, fun w' hw' => ⟨fun i hi => ?_⟩⟩
  · have hold : ((wr.alloc (.cells (madeCells #[.pointer none] len) 26)).drewN nq).heap[K0]? = some (.cells c 26 (0, 0)) := by
      rw [World.heap_drewN, Below.heap_alloc _ _ _ hlt]; exact h1
    have hnew : ((wr.alloc (.cells (madeCells #[.pointer none] len) 26)).drewN nq).heap[wr.heap.size]? = some (.cells (madeCells #[.pointer none] len) 26 (0, 0)) := by
      show (wr.heap.push _)[wr.heap.size]? = _
      simp
    have := run_copy_row Yba.prog ((wr.alloc (.cells (madeCells #[.pointer none] len) 26)).drewN nq) 25 25 3 26 wr.heap.size 0 len len ⟨K0, 0, none⟩ len len (madeCells #[.pointer none] len) 26 c.toList
      Yba.underlying25 (by kernel_rfl) hnew (by simp [h2]) (fun j v hv => by
        rw [Addr.add_lit, Nat.zero_add]
        unfold World.cell?
        rw [hold]
        simpa using hv) (by rw [size_madeCells]; simp [h2]) (fun v hv => by
          obtain ⟨j, hj⟩ := List.getElem?_of_mem hv
          exact one_of (h3 j v (by simpa using hj)))
    rw [this]
    have e : (madeCells #[.pointer none] len).toList.drop (0 + c.toList.length) = [] := by
      apply List.drop_of_length_le
      simp [size_madeCells, h2]
    rw [e]
    simp only [List.take_zero, List.nil_append, List.append_nil, Array.toArray_toList]
    have e1 : goInt c.toList.length = .int .i64 len := by simp [goInt, h2]
    rw [e1, setRow_new]
  · have hK : w'.heap[K0]? = some (.cells c 26 (0, 0)) := by
      rw [hw' K0 (Nat.le_refl _) (by omega), Below.heap_alloc _ _ _ hlt]; exact h1
    have hB : w'.heap[wr.heap.size]? = some (.cells c 26 (0, 0)) := by
      rw [hw' _ (by omega) (by omega)]
      show (wr.heap.push _)[wr.heap.size]? = _
      simp
    have ck : w'.cell? ⟨K0, i, none⟩ = some c[i] := by simp [World.cell?, hK, h2, hi]
    have cb : w'.cell? ⟨wr.heap.size, i, none⟩ = some c[i] := by simp [World.cell?, hB, h2, hi]
    rcases h3 i c[i] (by simp [h2, hi]) with e | ⟨b, hik, hb, e, hc⟩
    · left; rw [ck, cb, e]; exact ⟨rfl, rfl⟩
    · right
      refine ⟨b, by rw [ck, e], by rw [cb, e], fun j v hv => ?_⟩
      have hb2 := lt_of_some hc
      have : w'.heap[b]? = some (.cells (kidCells i) 32 (0, 0)) := by
        rw [hw' b (by omega) (by omega), Below.heap_alloc _ _ _ hb2]; exact hc
      simp [World.cell?, this, hv]

theorem copy_nil (w : World) (nq : Nat) : (Builtin.copy_ #[25, 25] 3 #[.slice (some ⟨w.heap.size, 0, none⟩) 0 0, .slice none 0 0]).run Yba.prog ((w.alloc (.cells (madeCells #[.pointer none] 0) 26)).drewN nq) = .ok (.int .i64 0) ((w.alloc (.cells (madeCells #[.pointer none] 0) 26)).drewN nq) := by
  have := run_copy_none (P := Yba.prog) ((w.alloc (.cells (madeCells #[.pointer none] 0) 26)).drewN nq) 25 25 3 26 (some ⟨w.heap.size, 0, none⟩) none 0 0 0 0 Yba.underlying25 (by kernel_rfl) rfl
  simpa [goInt] using this

def treeCells (text : ByteArray) : Array Value := #[.pointer none, .string text, .slice none 0 0, .pointer none, .slice none 0 0, .slice none 0 0, .slice none 0 0]
def arenaCells (ob L : Nat) (B lb kb : Int) : Array Value := #[.slice none 0 0, .slice (some ⟨ob, 0, none⟩) L L, .slice none 0 0, .int .i64 lb, .int .i64 B, .int .i64 kb]

/-- The tree's cells in a later world. -/
structure TreeAt (w' : World) (tb : Nat) (text : ByteArray) : Prop where
  c0 : w'.cell? ⟨tb, 0, none⟩ = some (.pointer none)
  c1 : w'.cell? ⟨tb, 1, none⟩ = some (.string text)
  c2 : w'.cell? ⟨tb, 2, none⟩ = some (.slice none 0 0)
  c3 : w'.cell? ⟨tb, 3, none⟩ = some (.pointer none)
  c4 : w'.cell? ⟨tb, 4, none⟩ = some (.slice none 0 0)
  c5 : w'.cell? ⟨tb, 5, none⟩ = some (.slice none 0 0)
  c6 : w'.cell? ⟨tb, 6, none⟩ = some (.slice none 0 0)

theorem TreeAt.of {w' : World} {tb : Nat} {text : ByteArray} (h : w'.heap[tb]? = some (.cells (treeCells text) 38 (0, 0))) : TreeAt w' tb text := by
  constructor <;> simp [World.cell?, h, treeCells]

/-- What is read behind the call: the tree, the children. -/
theorem tail_facts {S : Nat → Prop} {w wr W w' : World} {c : Array Value} {text : ByteArray} {K0 n : Nat} (hlt : K0 < wr.heap.size)
    (hW : ∀ k, k < wr.heap.size + 2 → W.heap[k]? = ((wr.alloc (.cells c 26)).alloc (.cells (treeCells text) 38)).heap[k]?) (hsz : wr.heap.size + 2 ≤ W.heap.size) (hS : ∀ k, k < wr.heap.size + 2 → ¬ S k) (hkb : KB S W w')
    (hkin : ∀ w', (∀ b, K0 ≤ b → b < wr.heap.size + 1 → w'.heap[b]? = (wr.alloc (.cells c 26)).heap[b]?) → Kin w' K0 wr.heap.size n) :
    TreeAt w' (wr.heap.size + 1) text ∧ Kin w' K0 wr.heap.size n := by
  refine ⟨TreeAt.of ?_, hkin w' fun b h1 h2 => ?_⟩
  · rw [hkb.block _ (by omega) (hS _ (by omega)), hW _ (by omega)]
    show ((wr.heap.push _).push _)[wr.heap.size + 1]? = _
    rw [Array.getElem?_push, if_pos (by simp)]
  · rw [hkb.block _ (by omega) (hS _ (by omega)), hW _ (by omega), Below.heap_alloc _ _ _ (by simp; omega)]

theorem newBranch_nil' (tb n : Nat) (ka : Option Addr) (sy st en : Int) (w : World) :
    Calls Yba.prog 4 #[.pointer (some ⟨tb, 0, none⟩), .pointer none, .int .u16 sy, .int .u32 st, .int .u32 en, .slice ka n n] w fun e w' => ∃ rb, e = .returned (.pointer (some ⟨rb, 0, none⟩)) ∧ NB w' rb tb sy st en ka n ∧ KB (fun _ => False) w w' :=
  (newBranch_nil tb n ka sy st en w).mono fun e w' ⟨h1, h2, h3⟩ => ⟨_, h1, h2, h3⟩

theorem eqIn_ptr (d : Nat) (t te : TypeId) (hp : Yba.prog.underlying t = some (.pointer te)) (hs : (Yba.prog.info? te).isSome = true) (a : Addr) (w : World) : (Op.equalIn (d + 1) t (.pointer (some a)) (.pointer (some a))).run Yba.prog w = .ok true w := by
  obtain ⟨j, hj⟩ := Option.isSome_iff_exists.1 hs
  by_cases hz : j.size = 0
  · simp [Op.equalIn, run_underlying hp, sizeOf, typeInfo, hj, hz]
  · simp [Op.equalIn, run_underlying hp, sizeOf, typeInfo, hj, sameAddr]

theorem neq_ptr (t te : TypeId) (hp : Yba.prog.underlying t = some (.pointer te)) (hs : (Yba.prog.info? te).isSome = true) (a : Addr) (w : World) : (binOp .neq t (.pointer (some a)) (.pointer (some a))).run Yba.prog w = .ok (.bool false) w := by
  simp only [binOp]
  simp [Op.equal, Op.maxDepth, eqIn_ptr 9999 t te hp hs a w]

set_option maxRecDepth 100000 in
theorem neq_node (x : Option Addr) (p2 : Option Addr) (i1 i7 i8 : Int) (w : World) : (binOp .neq 32 (.agg #[.pointer x, .int .u16 i1, .int .u16 0, .bool false, .bool false, .bool false, .bool false, .int .u32 i7, .int .u32 i8, .pointer p2, .pointer none, .int .u32 0, .int .u32 0]) (.agg #[.pointer x, .int .u16 i1, .int .u16 0, .bool false, .bool false, .bool false, .bool false, .int .u32 i7, .int .u32 i8, .pointer p2, .pointer none, .int .u32 0, .int .u32 0])).run Yba.prog w = .ok (.bool false) w := by
  have e27 : ∀ d w, (Op.equalIn (d + 1) 27 (.pointer x) (.pointer x)).run Yba.prog w = .ok true w := by
    intro d w
    cases x with
    | none => simp [Op.equalIn, run_underlying Yba.underlying27]
    | some a => exact eqIn_ptr d 27 _ Yba.underlying27 (by kernel_rfl) a w
  have e30 : ∀ d w, (Op.equalIn (d + 1) 30 (.pointer p2) (.pointer p2)).run Yba.prog w = .ok true w := by
    intro d w
    cases p2 with
    | none => simp [Op.equalIn, run_underlying Yba.underlying30]
    | some a => exact eqIn_ptr d 30 _ Yba.underlying30 (by kernel_rfl) a w
  have e26 : ∀ d w, (Op.equalIn (d + 1) 26 (.pointer none) (.pointer none)).run Yba.prog w = .ok true w := by
    intro d w
    simp [Op.equalIn, run_underlying Yba.underlying26]
  have k27 := fun w => e27 9998 w
  have k30 := fun w => e30 9998 w
  have k26 := fun w => e26 9998 w
  clear e27 e30 e26
  rw [run_neq_struct, run_equalIn_agg w 9999 32 _ _ (by kernel_rfl) (by kernel_rfl)]
  go_simp

theorem neqN (t e : TypeId) (h : Yba.prog.underlying t = some (.slice e)) (w : World) (a : Option Addr) (n c : Nat) : (binOp .neq t (.slice a n c) (.slice none 0 0)).run Yba.prog w = .ok (.bool (!a.isNone)) w := run_neq_slice_nil_any w t e a n c 0 0 h
theorem eqlN (t e : TypeId) (h : Yba.prog.underlying t = some (.slice e)) (w : World) (a : Option Addr) (n c : Nat) : (binOp .eql t (.slice a n c) (.slice none 0 0)).run Yba.prog w = .ok (.bool a.isNone) w := Lib.run_eql_slice_nil w t e a n c 0 0 h

theorem mk60n (w : World) (n : Nat) (hn : n ≤ 1000) : (Instr.makeSlice 40 (.int .i64 (n : Int)) (.int .i64 (n : Int))).run Yba.prog w = .ok (.slice (some ⟨w.heap.size, 0, none⟩) n n) (w.alloc (.cells (madeCells zeroBranch.cells (n * 21)) 60)) := by
  have := mk60 w (n : Int) (by omega) (by omega)
  simpa using this

theorem tree_fact {S : Nat → Prop} {wr W w' : World} {c : Array Value} {text : ByteArray}
    (hW : ∀ k, k < wr.heap.size + 2 → W.heap[k]? = ((wr.alloc (.cells c 26)).alloc (.cells (treeCells text) 38)).heap[k]?) (hsz : wr.heap.size + 2 ≤ W.heap.size) (hS : ∀ k, k < wr.heap.size + 2 → ¬ S k) (hkb : KB S W w') :
    TreeAt w' (wr.heap.size + 1) text := by
  refine TreeAt.of ?_
  rw [hkb.block _ (by omega) (hS _ (by omega)), hW _ (by omega)]
  show ((wr.heap.push _).push _)[wr.heap.size + 1]? = _
  rw [Array.getElem?_push, if_pos (by simp)]

theorem room_at (wr : World) (c : Array Value) (text : ByteArray) (L B : Nat) (lb kb : Int) (hL1 : 1 ≤ L) (hL3 : L < 600) (tb n : Nat) (ka : Option Addr) (sy st en : Int) (W : World)
    (hW : W = (((wr.alloc (.cells c 26)).alloc (.cells (treeCells text) 38)).alloc (.cells (madeCells zeroBranch.cells (L * 21)) 60)).alloc (.cells (arenaCells (wr.heap.size + 2) L B lb kb) 43)) :
    Calls Yba.prog 4 #[.pointer (some ⟨tb, 0, none⟩), .pointer (some ⟨wr.heap.size + 3, 0, none⟩), .int .u16 sy, .int .u32 st, .int .u32 en, .slice ka n n] W fun e w' => ∃ rb, rb = wr.heap.size + 2 ∧ e = .returned (.pointer (some ⟨wr.heap.size + 2, 0, none⟩)) ∧ NB w' (wr.heap.size + 2) tb sy st en ka n ∧ KB (fun k => k = wr.heap.size + 2 ∨ k = wr.heap.size + 3) W w' ∧
      (∃ o : Nat, (2 ≤ L → o = 21) ∧ w'.cell? ⟨wr.heap.size + 3, 1, none⟩ = some (.slice (some ⟨wr.heap.size + 2, o, none⟩) (L - 1) (L - 1))) ∧ w'.cell? ⟨wr.heap.size + 3, 0, none⟩ = some (.slice none 0 0) ∧ w'.cell? ⟨wr.heap.size + 3, 2, none⟩ = some (.slice none 0 0) ∧ w'.cell? ⟨wr.heap.size + 3, 3, none⟩ = some (.int .i64 lb) ∧ w'.cell? ⟨wr.heap.size + 3, 4, none⟩ = some (.int .i64 B) ∧ w'.cell? ⟨wr.heap.size + 3, 5, none⟩ = some (.int .i64 kb) := by
  subst hW
  have hs2 : ((wr.alloc (.cells c 26)).alloc (.cells (treeCells text) 38)).heap.size = wr.heap.size + 2 := by simp
  have hs3 : (((wr.alloc (.cells c 26)).alloc (.cells (treeCells text) 38)).alloc (.cells (madeCells zeroBranch.cells (L * 21)) 60)).heap.size = wr.heap.size + 3 := by simp
  have hob : ∀ j, ((((wr.alloc (.cells c 26)).alloc (.cells (treeCells text) 38)).alloc (.cells (madeCells zeroBranch.cells (L * 21)) 60)).alloc (.cells (arenaCells (wr.heap.size + 2) L B lb kb) 43)).cell? ⟨wr.heap.size + 2, j, none⟩ = (madeCells zeroBranch.cells (L * 21))[j]? := by
    intro j
    rw [World.cell?_alloc_past _ _ _ (by rw [hs3]; omega), World.cell?_alloc_at _ _ _ _ hs2.symm]
  have hm : ∀ j, ((((wr.alloc (.cells c 26)).alloc (.cells (treeCells text) 38)).alloc (.cells (madeCells zeroBranch.cells (L * 21)) 60)).alloc (.cells (arenaCells (wr.heap.size + 2) L B lb kb) 43)).cell? ⟨wr.heap.size + 3, j, none⟩ = (arenaCells (wr.heap.size + 2) L B lb kb)[j]? := by
    intro j
    rw [World.cell?_alloc_at _ _ _ _ hs3.symm]
  refine (newBranch_room tb n ka sy st en (wr.heap.size + 3) (wr.heap.size + 2) L _ (by omega) hL1 (by omega) (by rw [hm]; rfl) (by rw [World.frozen?_alloc_at _ _ _ _ hs3.symm]) (fun j hj => by rw [hob]; exact made_lt14 L hL1 j hj) (by rw [hob]; exact made_14 L hL1)
    (fun j => by rw [World.frozen?_alloc_past _ _ _ (by rw [hs3]; omega), World.frozen?_alloc_at _ _ _ _ hs2.symm])).mono ?_
  rintro e w' ⟨he, hnb, hkb, ho, hrest⟩
  exact ⟨_, rfl, he, hnb, hkb, ho, by rw [hrest 0 (by omega), hm]; rfl, by rw [hrest 2 (by omega), hm]; rfl, by rw [hrest 3 (by omega), hm]; rfl, by rw [hrest 4 (by omega), hm]; rfl, by rw [hrest 5 (by omega), hm]; rfl⟩

theorem new_at (wr : World) (c : Array Value) (text : ByteArray) (B : Nat) (lb kb : Int) (hB : B < 1000) (tb n : Nat) (ka : Option Addr) (sy st en : Int) (W : World)
    (hW : W = (((wr.alloc (.cells c 26)).alloc (.cells (treeCells text) 38)).alloc (.cells (madeCells zeroBranch.cells (0 * 21)) 60)).alloc (.cells (arenaCells (wr.heap.size + 2) 0 B lb kb) 43)) :
    Calls Yba.prog 4 #[.pointer (some ⟨tb, 0, none⟩), .pointer (some ⟨wr.heap.size + 3, 0, none⟩), .int .u16 sy, .int .u32 st, .int .u32 en, .slice ka n n] W fun e w' => ∃ rb, e = .returned (.pointer (some ⟨rb, 0, none⟩)) ∧ NB w' rb tb sy st en ka n ∧ KB (fun k => k = wr.heap.size + 3) W w' ∧
      (∃ o : Nat, w'.cell? ⟨wr.heap.size + 3, 1, none⟩ = some (.slice (some ⟨rb, o, none⟩) (newSize B - 1) (newSize B - 1))) ∧ w'.cell? ⟨wr.heap.size + 3, 0, none⟩ = some (.slice none 0 0) ∧ w'.cell? ⟨wr.heap.size + 3, 2, none⟩ = some (.slice none 0 0) ∧ w'.cell? ⟨wr.heap.size + 3, 3, none⟩ = some (.int .i64 lb) ∧ w'.cell? ⟨wr.heap.size + 3, 4, none⟩ = some (.int .i64 (newSize B)) ∧ w'.cell? ⟨wr.heap.size + 3, 5, none⟩ = some (.int .i64 kb) := by
  subst hW
  have hs3 : (((wr.alloc (.cells c 26)).alloc (.cells (treeCells text) 38)).alloc (.cells (madeCells zeroBranch.cells (0 * 21)) 60)).heap.size = wr.heap.size + 3 := by simp
  have hm : ∀ j, ((((wr.alloc (.cells c 26)).alloc (.cells (treeCells text) 38)).alloc (.cells (madeCells zeroBranch.cells (0 * 21)) 60)).alloc (.cells (arenaCells (wr.heap.size + 2) 0 B lb kb) 43)).cell? ⟨wr.heap.size + 3, j, none⟩ = (arenaCells (wr.heap.size + 2) 0 B lb kb)[j]? := by
    intro j
    rw [World.cell?_alloc_at _ _ _ _ hs3.symm]
  refine (newBranch_new tb n ka sy st en (wr.heap.size + 3) B (some ⟨wr.heap.size + 2, 0, none⟩) _ (by simp) hB (by rw [hm]; rfl) (by rw [World.frozen?_alloc_at _ _ _ _ hs3.symm]) (by rw [hm]; rfl) (by rw [World.frozen?_alloc_at _ _ _ _ hs3.symm])).mono ?_
  rintro e w' ⟨he, hnb, hkb, ho, h4, hrest⟩
  exact ⟨_, he, hnb, hkb, ho, by rw [hrest 0 (by omega) (by omega), hm]; rfl, by rw [hrest 2 (by omega) (by omega), hm]; rfl, by rw [hrest 3 (by omega) (by omega), hm]; rfl, h4, by rw [hrest 5 (by omega) (by omega), hm]; rfl⟩

end Go.Proofs.Ybulkegbq.lawS6620BWhole

import Derived.Test.YbulkegdgPutw
namespace Go.Proofs.Ybulkegdg.S6623B
open Go.RowKit
set_option linter.unusedVariables false

/-- What put writes. -/
def ent (dg dl dc dr gs ls cs rs : Int) : List UInt8 := if dg = gs ∧ dl = ls ∧ dc = cs ∧ dr = rs then [0] else entry dg dl dc dr

theorem put_any (b : Nat) (v : Value) (xs : List Value) (g l c r G L C R gs ls cs rs dg dl dc dr : Int) (w : World) (hcur : Cur w b G L C R gs ls cs rs) (hf : ∀ j, w.frozen? ⟨b, j, none⟩ = false) (hown : Row w v xs) (hvb : v.ownBlock ≠ some b) (hlim : xs.length + 40 ≤ 1099511627776)
    (e1 : wrap64 (g - G) = dg) (e2 : wrap64 (l - L) = dl) (e3 : wrap64 (c - C) = dc) (e4 : wrap64 (r - R) = dr) (b1 : In64 dg) (b2 : In64 dl) (b3 : In64 dc) (b4 : In64 dr) :
    Calls Yba.prog 8 #[.pointer (some ⟨b, 0, none⟩), v, .int .i64 g, .int .i64 l, .int .i64 c, .int .i64 r] w fun e w' => ∃ v', e = .returned v' ∧ Row w' v' (xs ++ Lib.byteCells (ent dg dl dc dr gs ls cs rs)) ∧ Cur w' b g l c r dg dl dc dr ∧ PF w w' b v v' ∧ v'.ownBlock ≠ some b := by
  unfold ent
  by_cases t1 : dg = gs
  · by_cases t2 : dl = ls
    · by_cases t3 : dc = cs
      · by_cases t4 : dr = rs
        · rw [if_pos ⟨t1, t2, t3, t4⟩]
          exact put_same b v xs g l c r G L C R gs ls cs rs dg dl dc dr w hcur hf hown hvb hlim e1 e2 e3 e4 b1 b2 b3 b4 (by simp [t1]) (by simp [t2]) (by simp [t3]) (by simp [t4])
        · rw [if_neg (fun h => t4 h.2.2.2)]
          exact put_diff4 b v xs g l c r G L C R gs ls cs rs dg dl dc dr w hcur hf hown hvb hlim e1 e2 e3 e4 b1 b2 b3 b4 (by simp [t1]) (by simp [t2]) (by simp [t3]) (by simp [t4])
      · rw [if_neg (fun h => t3 h.2.2.1)]
        exact put_diff3 b v xs g l c r G L C R gs ls cs rs dg dl dc dr w hcur hf hown hvb hlim e1 e2 e3 e4 b1 b2 b3 b4 (by simp [t1]) (by simp [t2]) (by simp [t3])
    · rw [if_neg (fun h => t2 h.2.1)]
      exact put_diff2 b v xs g l c r G L C R gs ls cs rs dg dl dc dr w hcur hf hown hvb hlim e1 e2 e3 e4 b1 b2 b3 b4 (by simp [t1]) (by simp [t2])
  · rw [if_neg (fun h => t1 h.1)]
    exact put_diff1 b v xs g l c r G L C R gs ls cs rs dg dl dc dr w hcur hf hown hvb hlim e1 e2 e3 e4 b1 b2 b3 b4 (by simp [t1])

def curCells (G L C R gs ls cs rs : Int) : Array Value := #[.int .i64 G, .int .i64 L, .int .i64 C, .int .i64 R, .int .i64 gs, .int .i64 ls, .int .i64 cs, .int .i64 rs]

theorem Cur.of {w : World} {b : Nat} {t : TypeId} {G L C R gs ls cs rs : Int} (h : w.heap[b]? = some (.cells (curCells G L C R gs ls cs rs) t (0, 0))) : Cur w b G L C R gs ls cs rs := by
  constructor <;> simp [World.cell?, h, curCells]

set_option maxHeartbeats 400000 in
theorem cur_any (G L C R gs ls cs rs : Int) (w : World) :
    Calls Yba.prog 5 #[.agg #[.int .i64 G, .int .i64 L, .int .i64 C, .int .i64 R, .int .i64 gs, .int .i64 ls, .int .i64 cs, .int .i64 rs]] w fun e w' => e = .returned (.agg #[.int .i64 G, .int .i64 L, .int .i64 C, .int .i64 R, .int .i64 gs, .int .i64 ls, .int .i64 cs, .int .i64 rs]) ∧ w' = (w.alloc (.cells (curCells G L C R gs ls cs rs) 23)).alloc (.cells (curCells G L C R gs ls cs rs) 26) := by
  go_enter Yba.func5, Yba.ntmps5
  go_wp2
  exact bodyPost_ret (v := .agg #[.int .i64 G, .int .i64 L, .int .i64 C, .int .i64 R, .int .i64 gs, .int .i64 ls, .int .i64 cs, .int .i64 rs]) (by simp [results, Yba.results5, go_sem]) rfl ⟨rfl, rfl⟩

theorem mk24 (w : World) (n c : Nat) (hn : n ≤ c) (hc : c ≤ 1099511627776) : (Instr.makeSlice 24 (.int .i64 n) (.int .i64 c)).run Yba.prog w = .ok (.slice (some ⟨w.heap.size, 0, none⟩) n c) (w.alloc (.cells (madeCells #[.int .u8 0] c) 5)) := by
  obtain ⟨i, hi, hz0, hz1, hz2⟩ := info_parts info5
  have := run_make (P := Yba.prog) w 24 5 i (.int .u8 0) Yba.underlying24 hi hz0 .i64 .i64 n c (by omega) (by omega) (by rw [hz2]; omega) (by omega)
  simpa [hz1, Value.cells] using this

def bytesOf (n : Nat) (zs : Nat → Int) : List Value := (List.range n).map fun i => .int .u8 (zs i)

theorem bytesOf_length (n : Nat) (zs : Nat → Int) : (bytesOf n zs).length = n := by simp [bytesOf]

theorem bytesOf_at {n : Nat} {zs : Nat → Int} {j : Nat} {v : Value} (h : (bytesOf n zs)[j]? = some v) : j < n ∧ v = .int .u8 (zs j) := by
  unfold bytesOf at h
  rw [List.getElem?_map] at h
  obtain ⟨i, hi, rfl⟩ := Option.map_eq_some_iff.1 h
  obtain ⟨h1, rfl⟩ := List.getElem?_eq_some_iff.1 hi
  simp at h1 ⊢
  exact h1

theorem copy_any (w : World) (g n cap : Nat) (cur : Array Value) (hg : w.heap[g]? = some (.cells cur 5 (0, 0))) (hsz : cur.size = cap) (hn : n ≤ cap) (hcap : cap ≤ maxLen) (a : Option Addr) (c : Nat) (zs : Nat → Int) (hcell : Cells w a n zs) :
    ∃ w', (Builtin.copy_ #[24, 24] 3 #[.slice (some ⟨g, 0, none⟩) n cap, .slice a n c]).run Yba.prog w = .ok (.int .i64 n) w' ∧ Row w' (.slice (some ⟨g, 0, none⟩) n cap) (bytesOf n zs) ∧ w.grownBy w' (some g) := by
  by_cases h0 : n = 0
  · subst h0
    have h := run_copy_none (P := Yba.prog) w 24 24 3 5 (some ⟨g, 0, none⟩) a 0 cap 0 c Yba.underlying24 (by kernel_rfl) rfl
    refine ⟨w, by simpa [goInt] using h, ⟨by simp, .inr ⟨g, cap, cur, by simp [bytesOf], Nat.zero_le _, hg, by simp [bytesOf], hcap, by omega, by simp [bytesOf]⟩⟩, World.grownBy.refl _ _⟩
  · obtain ⟨b, off, rfl, _⟩ := hcell 0 (by omega)
    have h := run_copy_row Yba.prog w 24 24 3 5 g 0 n cap ⟨b, off, none⟩ n c cur 5 (bytesOf n zs) Yba.underlying24 (by kernel_rfl) hg (by simp [bytesOf_length]) (fun j v hj => by
      obtain ⟨hj', rfl⟩ := bytesOf_at hj
      obtain ⟨b', off', e, q⟩ := hcell j hj'
      simp at e
      obtain ⟨rfl, rfl⟩ := e
      rw [Addr.add_lit]; exact q) (by rw [bytesOf_length]; omega) (fun v hv => by
      obtain ⟨j, hj⟩ := List.getElem?_of_mem hv
      obtain ⟨_, rfl⟩ := bytesOf_at hj
      rfl)
    refine ⟨_, by simpa [goInt, bytesOf_length] using h, ⟨by simp, .inr ⟨g, cap, (cur.toList.take 0 ++ bytesOf n zs ++ cur.toList.drop (0 + (bytesOf n zs).length)).toArray, by simp [bytesOf_length], Nat.zero_le _, ?_, by rw [bytesOf_length]; exact hn, hcap, ?_, ?_⟩⟩, ?_⟩
    · have := setRow_heap w g cur ((bytesOf n zs) ++ cur.toList.drop (bytesOf n zs).length).toArray 5 (0, 0) hg
      simpa [bytesOf_length] using this
    · simp [bytesOf_length]; omega
    · simp [List.take_left']
    · exact ⟨rfl, rfl, rfl, by simp [World.setRow], fun k hk hne => setRow_other w g k _ (by intro e; subst e; exact hne rfl)⟩

theorem Cells.kept {w w' : World} {a : Option Addr} {n : Nat} {zs : Nat → Int} (h : Cells w a n zs) (hb : ∀ k, k < w.heap.size → w'.heap[k]? = w.heap[k]?) : Cells w' a n zs := by
  intro i hi
  obtain ⟨b, off, e, q⟩ := h i hi
  exact ⟨b, off, e, (cell_other (hb b (World.block_lt_of_cell? w _ q))).trans q⟩

/-- The cells that a row owns. -/
theorem Row.shape {w : World} {v : Value} {xs : List Value} (h : Row w v xs) : ∃ a c, v = .slice a xs.length c ∧ ∀ j u, xs[j]? = some u → ∃ g, a = some ⟨g, 0, none⟩ ∧ w.cell? ⟨g, j, none⟩ = some u := by
  rcases h.2 with ⟨rfl, hn⟩ | ⟨g, cap, cur, rfl, _, hg, hnc, hcm, hcs, htake⟩
  · have hx : xs = [] := List.eq_nil_of_length_eq_zero hn
    subst hx
    exact ⟨none, 0, rfl, fun j u hu => by simp at hu⟩
  · refine ⟨_, cap, rfl, fun j u hu => ⟨g, rfl, ?_⟩⟩
    have hj : j < xs.length := (List.getElem?_eq_some_iff.1 hu).1
    rw [World.ownsRow.cellAt h j (by omega)]
    exact hu

def zOf (xs : List Value) (i : Nat) : Int := match xs[i]? with | some (.int _ z) => z | _ => 0

theorem Row.cellsOf {w : World} {v : Value} {xs : List Value} (h : Row w v xs) (hb : ∀ (j : Nat) (u : Value), xs[j]? = some u → ∃ z, u = Value.int .u8 z) : ∃ a c, v = .slice a xs.length c ∧ Cells w a xs.length (zOf xs) := by
  obtain ⟨a, c, e, hc⟩ := h.shape
  refine ⟨a, c, e, fun i hi => ?_⟩
  obtain ⟨z, hz⟩ := hb i xs[i] (List.getElem?_eq_getElem hi)
  obtain ⟨g, rfl, q⟩ := hc i xs[i] (List.getElem?_eq_getElem hi)
  refine ⟨g, 0, rfl, ?_⟩
  rw [Nat.zero_add, q]
  unfold zOf
  rw [List.getElem?_eq_getElem hi, hz]

theorem equal_rows (v1 v2 : Value) (xs : List Value) (w : World) (hn : xs.length ≤ 1099511627776) (hb : ∀ (j : Nat) (u : Value), xs[j]? = some u → ∃ z, u = Value.int .u8 z) (h1 : Row w v1 xs) (h2 : Row w v2 xs) :
    Calls Yba.prog 9 #[v1, v2] w fun e w' => e = .returned (.bool true) ∧ ∃ k, w' = w.drewN k := by
  obtain ⟨a1, c1, rfl, q1⟩ := h1.cellsOf hb
  obtain ⟨a2, c2, rfl, q2⟩ := h2.cellsOf hb
  exact equal_any a1 a2 xs.length c1 c2 (zOf xs) w hn q1 q2

theorem isBytes_of (n : Nat) (zs : Nat → Int) (l : List UInt8) : ∀ (j : Nat) (u : Value), (bytesOf n zs ++ Lib.byteCells l)[j]? = some u → ∃ z, u = Value.int .u8 z := by
  intro j u hu
  rcases List.mem_append.1 (List.mem_of_getElem? hu) with h | h
  · obtain ⟨j, hj⟩ := List.getElem?_of_mem h
    exact ⟨_, (bytesOf_at hj).2⟩
  · unfold Lib.byteCells at h
    obtain ⟨b, _, rfl⟩ := List.mem_map.1 h
    exact ⟨_, rfl⟩

theorem ent_length (dg dl dc dr gs ls cs rs : Int) (b1 : In64 dg) (b2 : In64 dl) (b3 : In64 dc) (b4 : In64 dr) : (ent dg dl dc dr gs ls cs rs).length ≤ 40 := by
  have l1 := Lib.uvarint_length64 (hdr_lt dg)
  have l2 := Lib.uvarint_length64 (Lib.zigzag_lt b2.1 b2.2)
  have l3 := Lib.uvarint_length64 (Lib.zigzag_lt b3.1 b3.2)
  have l4 := Lib.uvarint_length64 (Lib.zigzag_lt b4.1 b4.2)
  unfold ent
  split
  · simp
  · simp [entry]; omega

theorem wrap64_bd (x : Int) : In64 (wrap64 x) := by unfold In64 wrap64; omega

end Go.Proofs.Ybulkegdg.S6623B

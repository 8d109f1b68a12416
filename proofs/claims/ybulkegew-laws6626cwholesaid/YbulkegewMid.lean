import Derived.Test.YbulkegewSet
namespace Go.Proofs.Ybulkegew.S6626C
open Go.RowKit
set_option linter.unusedVariables false

theorem info3s : (Yba.prog.info? 3).isSome = true := by kernel_rfl

theorem eqIn_ptr (d : Nat) (a : Addr) (w : World) : (Op.equalIn (d + 1) 34 (.pointer (some a)) (.pointer (some a))).run Yba.prog w = .ok true w := by
  obtain ⟨j, hj⟩ := Option.isSome_iff_exists.1 info3s
  by_cases hz : j.size = 0
  · simp [Op.equalIn, run_underlying Yba.underlying34, sizeOf, typeInfo, hj, hz]
  · simp [Op.equalIn, run_underlying Yba.underlying34, sizeOf, typeInfo, hj, sameAddr]

theorem neq_ptr (a : Addr) (w : World) : (binOp .neq 34 (.pointer (some a)) (.pointer (some a))).run Yba.prog w = .ok (.bool false) w := by
  simp only [binOp]
  simp [Op.equal, Op.maxDepth, eqIn_ptr 9999 a w]

theorem same_other {a b : Addr} {ca : Array Value} {ta : TypeId} {v : Value} {w : World} (hne : ¬ a.block = b.block) (ha : w.heap[a.block]? = some (.cells ca ta (0, 0))) (hb : w.cell? b = some v) : (sameAddr a b).run Yba.prog w = .ok false w := by
  unfold World.cell? at hb
  split at hb
  · next cb tb f hh =>
    obtain ⟨lo, hi⟩ := f
    have h0 : ¬ cb.size = 0 := by
      split at hb
      · cases hb
      · have := (Array.getElem?_eq_some_iff.1 hb).1
        omega
    simp [sameAddr, hne, World.frozen?, ha, hh, noView, viewAt, World.shape?, mayBeOne, stringish, h0]
  · cases hb

theorem eqIn_other (d : Nat) {a b : Addr} {ca : Array Value} {ta : TypeId} {v : Value} {w : World} (hne : ¬ a.block = b.block) (ha : w.heap[a.block]? = some (.cells ca ta (0, 0))) (hb : w.cell? b = some v) : (Op.equalIn (d + 1) 34 (.pointer (some a)) (.pointer (some b))).run Yba.prog w = .ok false w := by
  obtain ⟨j, hj, hz0, hz1, hz2⟩ := info_parts info3
  simp [Op.equalIn, run_underlying Yba.underlying34, sizeOf, typeInfo, hj, hz1, same_other hne ha hb]

theorem eql_other {a b : Addr} {ca : Array Value} {ta : TypeId} {v : Value} {w : World} (hne : ¬ a.block = b.block) (ha : w.heap[a.block]? = some (.cells ca ta (0, 0))) (hb : w.cell? b = some v) : (binOp .eql 34 (.pointer (some a)) (.pointer (some b))).run Yba.prog w = .ok (.bool false) w := by
  simp only [binOp]
  simp [Op.equal, Op.maxDepth, eqIn_other 9999 hne ha hb]

/-- The two cuts of vs. -/
structure Cut (a0 : Option Addr) (len st n cp : Nat) (ax : Option Addr) (cx : Nat) : Prop where
  hi : ∀ w, (Instr.slice 22 (.slice a0 len cp) (some (.int .i64 st)) none none).run Yba.prog w = .ok (.slice ax n cx) w
  lo : ∀ w, (Instr.slice 22 (.slice a0 len cp) none (some (.int .i64 st)) none).run Yba.prog w = .ok (.slice a0 st cp) w
  cells : ∀ (W : World) (zs : Nat → Int), Cells W a0 len zs → Cells W ax n (fun j => zs (st + j))
  block : ∀ B, (∀ x : Addr, a0 = some x → 0 < len → x.block < B) → ∀ x : Addr, ax = some x → 0 < n → x.block < B

theorem cut_any (a0 : Option Addr) (len st n cp : Nat) (h : st + n = len) (hc : len ≤ cp) (hnil : a0 = none → cp = 0) : ∃ ax cx, Cut a0 len st n cp ax cx := by
  match a0, hnil with
  | none, hnil =>
    have := hnil rfl
    obtain rfl : cp = 0 := this
    obtain rfl : st = 0 := by omega
    obtain rfl : n = 0 := by omega
    obtain rfl : len = 0 := by omega
    obtain ⟨h1, h2⟩ := cuts_nil 0 rfl
    exact ⟨none, 0, h1, h2, fun W zs _ i hi => by omega, fun B _ x e _ => by cases e⟩
  | some x, _ =>
    obtain ⟨h1, h2⟩ := cuts_some x len st n cp h hc
    refine ⟨_, _, h1, h2, fun W zs hz => cut_cells h hc hz, fun B hB y e hn => ?_⟩
    rw [cut_block (len := len) (n := n) e]
    exact hB x rfl (by omega)

structure CloneRes (w w' : World) (len : Nat) (zs : Nat → Int) (av : Option Addr) (cv : Nat) : Prop where
  cells : Cells w' av len zs
  gr : w.grownBy w' none
  new : ∀ x : Addr, av = some x → 0 < len → w.heap.size ≤ x.block
  cap : len ≤ cv
  nil : av = none → cv = 0

theorem clone_any (a0 : Option Addr) (len cp : Nat) (zs : Nat → Int) (w : World) (hn : len ≤ 1048576) (hcp : len ≤ cp) (hnil : a0 = none → cp = 0) (hc : Cells w a0 len zs) :
    Calls Yba.prog 4 #[.slice a0 len cp] w fun e w' => ∃ av cv, e = .returned (.slice av len cv) ∧ CloneRes w w' len zs av cv := by
  match a0, hnil, hc with
  | none, hnil, hc =>
    have := hnil rfl
    obtain rfl : cp = 0 := this
    obtain rfl : len = 0 := by omega
    refine (clone_nil w).mono ?_
    rintro e w' ⟨rfl, rfl⟩
    exact ⟨none, 0, rfl, ⟨fun i hi => by omega, World.grownBy.refl _ _, fun x e _ => (by cases e), Nat.le_refl _, fun _ => rfl⟩⟩
  | some x, _, hc =>
    refine (clone_some x len cp zs w hn hc).mono ?_
    rintro e w' ⟨g, cv, rfl, h1, h2, h3, h4⟩
    exact ⟨some ⟨g, 0, none⟩, cv, rfl, ⟨h3, h4, fun y e _ => by simp at e; subst e; exact h2, h1, fun e => by cases e⟩⟩

/-- Behind the clone: what the walk still needs. -/
structure Mid (w W : World) (N : Nat) (m : Nat → Nat) (u sb : Nat) (a0 av : Option Addr) (len : Nat) (zs : Nat → Int) : Prop where
  st : St W w.heap.size N m sb w.heap.size N N u 0
  below : Below w.heap.size w W
  vs : Cells W a0 len zs
  vc : Cells W av len zs
  vb : ∀ x : Addr, a0 = some x → 0 < len → x.block < w.heap.size
  vn : ∀ x : Addr, av = some x → 0 < len → sb < x.block

theorem mid_of {w wr W1 W : World} {N u : Nat} {m : Nat → Nat} {a0 av : Option Addr} {len cv : Nat} {zs : Nat → Int} (hL : Laid w N N m wr) (hm : ∀ i, i < N → m i ≤ 256) (hc : Cells w a0 len zs) (hx : ∀ x : Addr, a0 = some x → 0 < len → x.block < w.heap.size)
    (hW : W1 = wr.alloc (.cells #[.slice (some ⟨w.heap.size, 0, none⟩) N N, .int .i64 u] 29)) (hr : CloneRes W1 W len zs av cv) : Mid w W N m u wr.heap.size a0 av len zs := by
  subst hW
  have hs := hL.size
  have b1 : Below w.heap.size w (wr.alloc (.cells #[.slice (some ⟨w.heap.size, 0, none⟩) N N, .int .i64 u] 29)) := hL.below.alloc (by omega) _
  have b2 := b1.grown hr.gr (by simp; omega) (fun k e => by cases e)
  exact ⟨(hL.st hm).kept (fun k hk => hr.gr.block k hk (by simp)), b2, hc.kept b2.block, hr.cells, hx, fun x e h => by have := hr.new x e h; simp at this; omega⟩

theorem Cells.keptA {w w' : World} {a : Option Addr} {n B : Nat} {zs : Nat → Int} (h : Cells w a n zs) (hB : ∀ x : Addr, a = some x → 0 < n → B < x.block) (hb : ∀ k, k < w.heap.size → B < k → w'.heap[k]? = w.heap[k]?) : Cells w' a n zs := by
  intro i hi
  obtain ⟨b, off, e, q⟩ := h i hi
  exact ⟨b, off, e, (cell_other (hb b (World.block_lt_of_cell? w _ q) (hB ⟨b, off, none⟩ e (by omega)))).trans q⟩

/-- Behind the taking of a long run. -/
theorem Mid.long {w W W' : World} {N : Nat} {m : Nat → Nat} {u sb : Nat} {a0 av : Option Addr} {len n q c : Nat} {zs zr : Nat → Int} (h : Mid w W N m u sb a0 av len zs) (hr : LongRes W W' n zr q c) : Mid w W' N m u sb a0 av len zs ∧ Cells W' (some ⟨q, 0, none⟩) n zr ∧ w.heap.size ≤ q := by
  have hb : ∀ k, k < W.heap.size → W'.heap[k]? = W.heap[k]? := fun k hk => hr.gr.block k hk (by simp)
  have hs := h.below.size
  refine ⟨⟨h.st.kept hb, h.below.grown hr.gr (by omega) (fun k e => by cases e), h.vs.kept hb, h.vc.kept hb, h.vb, h.vn⟩, fun i hi => ?_, by have := hr.blk; omega⟩
  obtain ⟨ck, r1, r2⟩ := hr.row
  exact ⟨q, 0, rfl, cell_of r1 (by rw [Nat.zero_add]; exact r2 i hi)⟩

/-- Behind the taking of a short run. -/
structure End (w W : World) (N : Nat) (m : Nat → Nat) (sb : Nat) (a0 av : Option Addr) (len n : Nat) (zs zr : Nat → Int) (bb want cw nu gN k gk cpk : Nat) : Prop where
  fin : Fin W w.heap.size N m sb bb want cw nu gN k gk cpk n zr
  below : Below w.heap.size w W
  vs : Cells W a0 len zs
  vc : Cells W av len zs

theorem Mid.run {w W W' : World} {N : Nat} {m : Nat → Nat} {u sb : Nat} {a0 av a1 : Option Addr} {len n : Nat} {zs zr : Nat → Int} {bb want cw nu gN k gk cpk : Nat} (h : Mid w W N m u sb a0 av len zs) (hr : RunRes W W' w.heap.size N m sb u n zr a1 bb want cw nu gN k gk cpk) :
    End w W' N m sb a0 av len n zs zr bb want cw nu gN k gk cpk ∧ Cells W' a1 n zr := by
  have hf := hr.fr
  have hs := h.below.size
  refine ⟨⟨hr.fin, h.below.trans ⟨hf.os, hf.tape, hf.output, hf.size, fun k hk => hf.block k (by omega) (.inl hk)⟩, h.vs.keptB h.vb (fun k hk => hf.block k (by omega) (.inl hk)), h.vc.keptA h.vn (fun k hk hb => hf.block k hk (.inr hb))⟩, fun i hi => ?_⟩
  obtain ⟨ck, r1, r2, r3⟩ := hr.fin.rowk
  exact ⟨gk, lix N m k, hr.at_ (by omega), cell_of r1 (r3 i hi)⟩

theorem Below.drewNd {B : Nat} {w W : World} (h : Below B w W) (k : Nat) : Below B w (W.drewN k) := ⟨h.os, h.tape, h.output, h.size, h.block⟩

end Go.Proofs.Ybulkegew.S6626C

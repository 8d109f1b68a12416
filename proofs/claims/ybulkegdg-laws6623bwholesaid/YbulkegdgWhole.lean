import Derived.Test.YbulkegdgFact
namespace Go.Proofs.Ybulkegdg.S6623B
open Go.RowKit
set_option linter.unusedVariables false

/-- The worlds ahead of the appends: what is known of them. -/
structure Set (w W : World) (n : Nat) (zs : Nat → Int) (a : Option Addr) (G L C R gs ls cs rs : Int) (ib wb cb : Nat) : Prop where
  below : ∀ k, k < w.heap.size → W.heap[k]? = w.heap[k]?
  os : W.os = w.os
  tape : W.tape = w.tape
  output : W.output = w.output
  box : Cur W w.heap.size G L C R gs ls cs rs
  cur : Cur W cb G L C R gs ls cs rs
  free : ∀ j, W.frozen? ⟨cb, j, none⟩ = false
  inn : Row W (.slice (some ⟨ib, 0, none⟩) n n) (bytesOf n zs)
  want : Row W (.slice (some ⟨wb, 0, none⟩) n (n + 41)) (bytesOf n zs)
  lts : w.heap.size < ib ∧ ib < cb ∧ cb < wb ∧ wb < W.heap.size

/-- The two copies. -/
theorem set_up (w : World) (n : Nat) (hn : n ≤ 1048576) (zs : Nat → Int) (a : Option Addr) (cp : Nat) (G L C R gs ls cs rs : Int) (hcell : Cells w a n zs) :
    ∃ W1 W2, (Builtin.copy_ #[24, 24] 3 #[.slice (some ⟨w.heap.size + 1, 0, none⟩) n n, .slice a n cp]).run Yba.prog ((w.alloc (.cells (curCells G L C R gs ls cs rs) 23)).alloc (.cells (madeCells #[.int .u8 0] n) 5)) = .ok (.int .i64 n) W1 ∧
      (Builtin.copy_ #[24, 24] 3 #[.slice (some ⟨W1.heap.size + 3, 0, none⟩) n (n + 41), .slice a n cp]).run Yba.prog ((((W1.alloc (.cells (curCells G L C R gs ls cs rs) 23)).alloc (.cells (curCells G L C R gs ls cs rs) 26)).alloc (.cells (curCells G L C R gs ls cs rs) 26)).alloc (.cells (madeCells #[.int .u8 0] (n + 41)) 5)) = .ok (.int .i64 n) W2 ∧
      Cur W1 w.heap.size G L C R gs ls cs rs ∧ w.heap.size < W1.heap.size ∧ Set w W2 n zs a G L C R gs ls cs rs (w.heap.size + 1) (W1.heap.size + 3) (W1.heap.size + 2) := by
  have hml : n + 41 ≤ maxLen := by unfold maxLen; omega
  have hW0 : ((w.alloc (.cells (curCells G L C R gs ls cs rs) 23)).alloc (.cells (madeCells #[.int .u8 0] n) 5)).heap[w.heap.size + 1]? = some (.cells (madeCells #[.int .u8 0] n) 5 (0, 0)) := by
    show ((w.heap.push _).push _)[w.heap.size + 1]? = _
    rw [Array.getElem?_push, if_pos (by simp)]
  have hbox0 : ((w.alloc (.cells (curCells G L C R gs ls cs rs) 23)).alloc (.cells (madeCells #[.int .u8 0] n) 5)).heap[w.heap.size]? = some (.cells (curCells G L C R gs ls cs rs) 23 (0, 0)) := by
    rw [Below.heap_alloc _ _ _ (by simp)]
    show (w.heap.push _)[w.heap.size]? = _
    simp
  have hbel0 : ∀ k, k < w.heap.size → ((w.alloc (.cells (curCells G L C R gs ls cs rs) 23)).alloc (.cells (madeCells #[.int .u8 0] n) 5)).heap[k]? = w.heap[k]? := by
    intro k hk
    rw [Below.heap_alloc _ _ _ (by simp; omega), Below.heap_alloc _ _ _ hk]
  obtain ⟨W1, r1, row1, gr1⟩ := copy_any _ (w.heap.size + 1) n n _ hW0 (size_madeCells _ _) (Nat.le_refl _) (by omega) a cp zs (hcell.kept hbel0)
  have s1 : w.heap.size + 2 ≤ W1.heap.size := by have := gr1.size; simpa using this
  have hbel1 : ∀ k, k < w.heap.size → W1.heap[k]? = w.heap[k]? := fun k hk => (gr1.block k (by simp; omega) (by intro e; simp at e; omega)).trans (hbel0 k hk)
  have hbox1 : W1.heap[w.heap.size]? = some (.cells (curCells G L C R gs ls cs rs) 23 (0, 0)) := (gr1.block w.heap.size (by simp; omega) (by intro e; simp at e)).trans hbox0
  have hold : ∀ k, k < W1.heap.size → ((((W1.alloc (.cells (curCells G L C R gs ls cs rs) 23)).alloc (.cells (curCells G L C R gs ls cs rs) 26)).alloc (.cells (curCells G L C R gs ls cs rs) 26)).alloc (.cells (madeCells #[.int .u8 0] (n + 41)) 5)).heap[k]? = W1.heap[k]? := by
    intro k hk
    rw [Below.heap_alloc _ _ _ (by simp; omega), Below.heap_alloc _ _ _ (by simp; omega), Below.heap_alloc _ _ _ (by simp; omega), Below.heap_alloc _ _ _ hk]
  have hcb : ((((W1.alloc (.cells (curCells G L C R gs ls cs rs) 23)).alloc (.cells (curCells G L C R gs ls cs rs) 26)).alloc (.cells (curCells G L C R gs ls cs rs) 26)).alloc (.cells (madeCells #[.int .u8 0] (n + 41)) 5)).heap[W1.heap.size + 2]? = some (.cells (curCells G L C R gs ls cs rs) 26 (0, 0)) := by
    rw [Below.heap_alloc _ _ _ (by simp)]
    show (((W1.heap.push _).push _).push _)[W1.heap.size + 2]? = _
    rw [Array.getElem?_push, if_pos (by simp)]
  have hwb : ((((W1.alloc (.cells (curCells G L C R gs ls cs rs) 23)).alloc (.cells (curCells G L C R gs ls cs rs) 26)).alloc (.cells (curCells G L C R gs ls cs rs) 26)).alloc (.cells (madeCells #[.int .u8 0] (n + 41)) 5)).heap[W1.heap.size + 3]? = some (.cells (madeCells #[.int .u8 0] (n + 41)) 5 (0, 0)) := by
    show ((((W1.heap.push _).push _).push _).push _)[W1.heap.size + 3]? = _
    rw [Array.getElem?_push, if_pos (by simp)]
  obtain ⟨W2, r2, row2, gr2⟩ := copy_any _ (W1.heap.size + 3) n (n + 41) _ hwb (size_madeCells _ _) (by omega) hml a cp zs ((hcell.kept hbel1).kept hold)
  have s2 : W1.heap.size + 4 ≤ W2.heap.size := by have := gr2.size; simpa using this
  have k2 : ∀ k, k < W1.heap.size + 3 → W2.heap[k]? = ((((W1.alloc (.cells (curCells G L C R gs ls cs rs) 23)).alloc (.cells (curCells G L C R gs ls cs rs) 26)).alloc (.cells (curCells G L C R gs ls cs rs) 26)).alloc (.cells (madeCells #[.int .u8 0] (n + 41)) 5)).heap[k]? := fun k hk => gr2.block k (by simp; omega) (by intro e; simp at e; omega)
  refine ⟨W1, W2, r1, r2, Cur.of hbox1, by omega, ?_⟩
  refine ⟨fun k hk => (k2 k (by omega)).trans ((hold k (by omega)).trans (hbel1 k hk)), gr2.os.trans gr1.os, gr2.tape.trans gr1.tape, gr2.output.trans gr1.output, Cur.of ((k2 _ (by omega)).trans ((hold _ (by omega)).trans hbox1)), Cur.of ((k2 _ (by omega)).trans hcb), ?_, ?_, row2, by omega⟩
  · intro j
    have := (k2 (W1.heap.size + 2) (by omega)).trans hcb
    simp [World.frozen?, this]
  · refine World.ownsRow.kept (World.ownsRow.alloc (World.ownsRow.alloc (World.ownsRow.alloc (World.ownsRow.alloc row1 _) _) _) _) gr2 (.inr ?_)
    simp [Value.ownBlock]
    omega

theorem Row.at {w : World} {g n cap : Nat} {zs : Nat → Int} (h : Row w (.slice (some ⟨g, 0, none⟩) n cap) (bytesOf n zs)) : Cells w (some ⟨g, 0, none⟩) n zs := by
  intro i hi
  refine ⟨g, 0, rfl, ?_⟩
  have h' : w.ownsRow 0 5 1 (.slice (some ⟨g, 0, none⟩) n cap) n (bytesOf n zs) := by
    have := h
    unfold Row at this
    rwa [bytesOf_length] at this
  rw [Nat.zero_add, h'.cellAt i (by omega)]
  simp [bytesOf, hi]

theorem after {w W w5 : World} {n : Nat} {zs : Nat → Int} {a : Option Addr} {G L C R gs ls cs rs : Int} {ib wb cb : Nat} {v5 : Value} (h : Set w W n zs a G L C R gs ls cs rs ib wb cb) (hst : Step W w5 (.slice (some ⟨wb, 0, none⟩) n (n + 41)) v5) :
    Cur w5 cb G L C R gs ls cs rs ∧ (∀ j, w5.frozen? ⟨cb, j, none⟩ = false) ∧ Row w5 (.slice (some ⟨ib, 0, none⟩) n n) (bytesOf n zs) := by
  obtain ⟨l1, l2, l3, l4⟩ := h.lts
  have hc : w5.heap[cb]? = W.heap[cb]? := hst.grown.block cb (by omega) (by intro e; simp [Value.ownBlock] at e; omega)
  refine ⟨h.cur.kept hc, fun j => (World.frozen?_of_block (w := W) (a := ⟨cb, j, none⟩) hc).trans (h.free j), h.inn.kept hst (.inr ?_)⟩
  intro e; simp [Value.ownBlock] at e; omega

theorem after2 {w W w5 w6 : World} {n : Nat} {zs : Nat → Int} {a : Option Addr} {G L C R gs ls cs rs : Int} {ib wb cb : Nat} {v5 vg : Value} {ys : List Value} (h : Set w W n zs a G L C R gs ls cs rs ib wb cb) (hcell : Cells w a n zs) (hst : Step W w5 (.slice (some ⟨wb, 0, none⟩) n (n + 41)) v5)
    (hrow : Row w5 v5 ys) (hpf : PF w5 w6 cb (.slice (some ⟨ib, 0, none⟩) n n) vg) :
    Row w6 v5 ys ∧ Cells w6 (some ⟨ib, 0, none⟩) n zs ∧ Cells w6 a n zs ∧ Below w.heap.size w w6 := by
  obtain ⟨l1, l2, l3, l4⟩ := h.lts
  have hs := hst.grown.size
  have hbl : ∀ k, k < w.heap.size → w6.heap[k]? = w.heap[k]? := fun k hk =>
    (hpf.block k (by omega) (by omega) (by intro e; simp [Value.ownBlock] at e; omega)).trans ((hst.grown.block k (by omega) (by intro e; simp [Value.ownBlock] at e; omega)).trans (h.below k hk))
  refine ⟨?_, ?_, hcell.kept hbl, ⟨hpf.os.trans (hst.grown.os.trans h.os), hpf.tape.trans (hst.grown.tape.trans h.tape), hpf.output.trans (hst.grown.output.trans h.output), by have := hpf.size; omega, hbl⟩⟩
  · rcases hrow.2 with ⟨rfl, hn⟩ | ⟨g, cap, cur, rfl, hb0, hg, r⟩
    · exact ⟨hrow.1, .inl ⟨rfl, hn⟩⟩
    · refine ⟨hrow.1, .inr ⟨g, cap, cur, rfl, hb0, ?_, r⟩⟩
      have hgs : g < w5.heap.size := (Array.getElem?_eq_some_iff.1 hg).1
      have hne : g ≠ cb ∧ g ≠ ib := by
        rcases hst.blk with e | ⟨q, e, hq⟩
        · simp [Value.ownBlock] at e; omega
        · simp [Value.ownBlock] at e; omega
      rw [hpf.block g hgs hne.1 (by intro e; simp [Value.ownBlock] at e; omega)]
      exact hg
  · have hin := (after h hst).2.2.at
    intro i hi
    obtain ⟨b', off', e, q⟩ := hin i hi
    simp at e
    obtain ⟨rfl, rfl⟩ := e
    refine ⟨ib, 0, rfl, ?_⟩
    rw [Nat.zero_add] at q ⊢
    exact (hpf.keep ib rfl (World.block_lt_of_cell? w5 _ q) i hi).trans q

end Go.Proofs.Ybulkegdg.S6623B

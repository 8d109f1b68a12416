import Derived.Test.YbulkegewTake
namespace Go.Proofs.Ybulkegew.S6626C
open Go.RowKit
set_option linter.unusedVariables false

/-- What the law has laid behind k rounds. -/
structure Laid (w : World) (N k : Nat) (m : Nat → Nat) (W : World) : Prop where
  below : Below w.heap.size w W
  size : W.heap.size = w.heap.size + 2 + k
  hd : ∃ bc : Array Value, W.heap[w.heap.size]? = some (.cells bc 22 (0, 0)) ∧ bc.size = N ∧ ∀ i, i < k → bc[i]? = some (.slice (some ⟨w.heap.size + 2 + i, 0, none⟩) (m i) 256)
  ol : ∃ oc : Array Value, W.heap[w.heap.size + 1]? = some (.cells oc 3 (0, 0)) ∧ oc.size = N ∧ ∀ i, i < k → oc[i]? = some (.int .i64 (m i))
  rows : ∀ i, i < k → RowAt W (w.heap.size + 2 + i) i (m i)

theorem Laid.start (w : World) (N : Nat) (m : Nat → Nat) : Laid w N 0 m ((w.alloc (.cells (madeCells #[.slice none 0 0] N) 22)).alloc (.cells (madeCells #[.int .i64 0] N) 3)) := by
  refine ⟨((Below.refl _ _).alloc (Nat.le_refl _) _).alloc (by simp) _, by simp, ⟨madeCells #[.slice none 0 0] N, ?_, size_madeCells _ _, fun i hi => by omega⟩, ⟨madeCells #[.int .i64 0] N, ?_, size_madeCells _ _, fun i hi => by omega⟩, fun i hi => by omega⟩
  · rw [Below.heap_alloc _ _ _ (by simp)]
    show (w.heap.push _)[w.heap.size]? = _
    simp
  · show ((w.heap.push _).push _)[w.heap.size + 1]? = _
    rw [Array.getElem?_push, if_pos (by simp)]

theorem Laid.step {w wr : World} {N k : Nat} {m : Nat → Nat} {c : Array Value} (h : Laid w N k m wr) (hk : k < N) (hc : c.size = 256) (hp : ∀ j, j < m k → c[j]? = some (.int .i64 (pat k j))) :
    Laid w N (k + 1) m (((wr.setCell ⟨w.heap.size, k, none⟩ (.slice (some ⟨wr.heap.size, 0, none⟩) (m k) 256)).setCell ⟨w.heap.size + 1, k, none⟩ (.int .i64 (m k))).alloc (.cells c 3)) := by
  obtain ⟨bc, b1, b2, b3⟩ := h.hd
  obtain ⟨oc, o1, o2, o3⟩ := h.ol
  have hs := h.size
  have hs2 : ((wr.setCell ⟨w.heap.size, k, none⟩ (.slice (some ⟨wr.heap.size, 0, none⟩) (m k) 256)).setCell ⟨w.heap.size + 1, k, none⟩ (.int .i64 (m k))).heap.size = wr.heap.size := by simp
  have hother : ∀ q, q < wr.heap.size → q ≠ w.heap.size → q ≠ w.heap.size + 1 → (((wr.setCell ⟨w.heap.size, k, none⟩ (.slice (some ⟨wr.heap.size, 0, none⟩) (m k) 256)).setCell ⟨w.heap.size + 1, k, none⟩ (.int .i64 (m k))).alloc (.cells c 3)).heap[q]? = wr.heap[q]? := by
    intro q hq h1 h2
    rw [Below.heap_alloc _ _ _ (by omega), Below.heap_setCell _ _ _ _ h2, Below.heap_setCell _ _ _ _ h1]
  refine ⟨((h.below.setCell (p := ⟨w.heap.size, k, none⟩) (Nat.le_refl _) _).setCell (p := ⟨w.heap.size + 1, k, none⟩) (Nat.le_succ _) _).alloc (by rw [hs2]; omega) _, by rw [World.size_alloc, hs2]; omega, ⟨bc.setIfInBounds k (.slice (some ⟨wr.heap.size, 0, none⟩) (m k) 256), ?_, by simpa using b2, fun i hi => ?_⟩, ⟨oc.setIfInBounds k (.int .i64 (m k)), ?_, by simpa using o2, fun i hi => ?_⟩, fun i hi => ?_⟩
  · rw [Below.heap_alloc _ _ _ (by omega), Below.heap_setCell _ _ _ _ (by show w.heap.size ≠ w.heap.size + 1; omega)]
    simp only [World.setCell, Array.getElem?_modify, b1]
    simp
  · rw [Array.getElem?_setIfInBounds]
    by_cases hik : k = i
    · subst hik
      rw [if_pos rfl, if_pos (by omega), hs]
    · rw [if_neg hik]; exact b3 i (by omega)
  · rw [Below.heap_alloc _ _ _ (by omega)]
    have : (wr.setCell ⟨w.heap.size, k, none⟩ (.slice (some ⟨wr.heap.size, 0, none⟩) (m k) 256)).heap[w.heap.size + 1]? = some (.cells oc 3 (0, 0)) := by
      rw [Below.heap_setCell _ _ _ _ (by show w.heap.size + 1 ≠ w.heap.size; omega)]; exact o1
    generalize (wr.setCell ⟨w.heap.size, k, none⟩ (.slice (some ⟨wr.heap.size, 0, none⟩) (m k) 256)) = W at this
    simp only [World.setCell, Array.getElem?_modify, this]
    simp
  · rw [Array.getElem?_setIfInBounds]
    by_cases hik : k = i
    · subst hik
      rw [if_pos rfl, if_pos (by omega)]
    · rw [if_neg hik]; exact o3 i (by omega)
  · by_cases hik : i < k
    · obtain ⟨ci, r1, r2, r3⟩ := h.rows i hik
      exact ⟨ci, by rw [hother _ (by omega) (by omega) (by omega)]; exact r1, r2, r3⟩
    · obtain rfl : i = k := by omega
      refine ⟨c, ?_, hc, hp⟩
      have e1 : w.heap.size + 2 + i = wr.heap.size := hs.symm
      rw [e1]
      show (Array.push _ _)[wr.heap.size]? = _
      rw [Array.getElem?_push, if_pos hs2.symm]

theorem Laid.st {w wr : World} {N u : Nat} {m : Nat → Nat} (h : Laid w N N m wr) (hm : ∀ i, i < N → m i ≤ 256) :
    St (wr.alloc (.cells #[.slice (some ⟨w.heap.size, 0, none⟩) N N, .int .i64 u] 29)) w.heap.size N m wr.heap.size w.heap.size N N u 0 := by
  obtain ⟨bc, b1, b2, b3⟩ := h.hd
  obtain ⟨oc, o1, o2, o3⟩ := h.ol
  have hs := h.size
  refine ⟨?_, ⟨bc, by rw [Below.heap_alloc _ _ _ (by omega)]; exact b1, b2, fun i hi => by rw [gix_lt hi, lix_lt hi]; exact b3 i hi⟩, fun i hi => ?_, ⟨oc, by rw [Below.heap_alloc _ _ _ (by omega)]; exact o1, o3⟩, hs, .inl rfl, .inl rfl, hm⟩
  · show (Array.push _ _)[_]? = _
    rw [Array.getElem?_push, if_pos rfl]
  · obtain ⟨ci, r1, r2, r3⟩ := h.rows i hi
    rw [gix_lt hi, lix_lt hi]
    exact ⟨ci, by rw [Below.heap_alloc _ _ _ (by omega)]; exact r1, r2, r3⟩

theorem Laid.cells {w wr : World} {N k : Nat} {m : Nat → Nat} (h : Laid w N k m wr) (hk : k < N) : (∃ v, wr.cell? ⟨w.heap.size, k, none⟩ = some v) ∧ (∃ v, wr.cell? ⟨w.heap.size + 1, k, none⟩ = some v) ∧ (∀ j, wr.frozen? ⟨w.heap.size, j, none⟩ = false) ∧ (∀ j, wr.frozen? ⟨w.heap.size + 1, j, none⟩ = false) := by
  obtain ⟨bc, b1, b2, b3⟩ := h.hd
  obtain ⟨oc, o1, o2, o3⟩ := h.ol
  exact ⟨⟨bc[k], cell_of b1 (by simp [b2, hk])⟩, ⟨oc[k], cell_of o1 (by simp [o2, hk])⟩, free_of b1, free_of o1⟩

/-- One more number laid in a row. -/
theorem row_more {c : Array Value} {i j : Nat} {y : Int} (hc : c.size = 256) (hj : j < 256) (hy : y = pat i j) (hp : ∀ t, t < j → c[t]? = some (.int .i64 (pat i t))) : (c.setIfInBounds j (.int .i64 y)).size = 256 ∧ ∀ t, t < j + 1 → (c.setIfInBounds j (.int .i64 y))[t]? = some (.int .i64 (pat i t)) := by
  refine ⟨by simpa using hc, fun t ht => ?_⟩
  rw [Array.getElem?_setIfInBounds]
  by_cases h : j = t
  · subst h
    rw [if_pos rfl, if_pos (by omega), hy]
  · rw [if_neg h]; exact hp t (by omega)

theorem mkHdr (w : World) (n : Nat) (hn : n ≤ 4096) : (Instr.makeSlice 25 (.int .i64 n) (.int .i64 n)).run Yba.prog w = .ok (.slice (some ⟨w.heap.size, 0, none⟩) n n) (w.alloc (.cells (madeCells #[.slice none 0 0] n) 22)) := by
  obtain ⟨i, hi, hz0, hz1, hz2⟩ := info_parts info22
  have := run_make (P := Yba.prog) w 25 22 i (.slice none 0 0) Yba.underlying25 hi hz0 .i64 .i64 n n (by omega) (by omega) (by rw [hz2]; omega) (by omega)
  simpa [hz1, Value.cells] using this
theorem mkInts (w : World) (l c : Nat) (hl : l ≤ c) (hn : c ≤ 4096) : (Instr.makeSlice 22 (.int .i64 l) (.int .i64 c)).run Yba.prog w = .ok (.slice (some ⟨w.heap.size, 0, none⟩) l c) (w.alloc (.cells (madeCells #[.int .i64 0] c) 3)) := by
  obtain ⟨i, hi, hz0, hz1, hz2⟩ := info_parts info3
  have := run_make (P := Yba.prog) w 22 3 i (.int .i64 0) Yba.underlying22 hi hz0 .i64 .i64 l c (by omega) (by omega) (by rw [hz2]; omega) (by omega)
  simpa [hz1, Value.cells] using this

/-- The n elements of the slice of uint16. -/
def Lens (w : World) (a : Option Addr) (n : Nat) (zl : Nat → Int) : Prop := ∀ i, i < n → ∃ b off, a = some ⟨b, off, none⟩ ∧ w.cell? ⟨b, off + i, none⟩ = some (.int .u16 (zl i)) ∧ 0 ≤ zl i ∧ zl i ≤ 65535

end Go.Proofs.Ybulkegew.S6626C

import Derived.Test.YbulkegewMid
namespace Go.Proofs.Ybulkegew.S6626C
open Go.RowKit
set_option linter.unusedVariables false

theorem pick_fits {u v n N k nu want : Nat} {m : Nat → Nat} (h : Pick u n N m k nu want) (hv : u = v + 1) (hf : m v + n ≤ 256) : k = v ∧ nu = u ∧ want = N := by
  subst hv
  rcases h with ⟨_, _, e1, e2, e3⟩ | ⟨h, _⟩
  · exact ⟨by omega, e2, e3⟩
  · rcases h with h | h
    · omega
    · simp at h
      omega

theorem pick_next {u n N k nu want : Nat} {m : Nat → Nat} (h : Pick u n N m k nu want) (hf : u = 0 ∨ ∃ v, u = v + 1 ∧ 256 < m v + n) (hu : u < N) : k = u ∧ nu = u + 1 ∧ want = N := by
  rcases h with ⟨h0, h1, e1, e2, e3⟩ | ⟨_, e1, e2, e3⟩
  · rcases hf with hf | ⟨v, rfl, hf⟩
    · omega
    · simp at h1
      omega
  · exact ⟨e1, e2, by rw [e3, if_pos hu]⟩

theorem pick_new {u n N k nu want : Nat} {m : Nat → Nat} (h : Pick u n N m k nu want) (hf : u = 0 ∨ ∃ v, u = v + 1 ∧ 256 < m v + n) (hu : ¬ u < N) : k = u ∧ nu = u + 1 ∧ want = N + 1 := by
  rcases h with ⟨h0, h1, e1, e2, e3⟩ | ⟨_, e1, e2, e3⟩
  · rcases hf with hf | ⟨v, rfl, hf⟩
    · omega
    · simp at h1
      omega
  · exact ⟨e1, e2, by rw [e3, if_neg hu]⟩

theorem End.s0 {w W : World} {N : Nat} {m : Nat → Nat} {sb : Nat} {a0 av : Option Addr} {len n : Nat} {zs zr : Nat → Int} {bb want cw nu gN k gk cpk : Nat} (h : End w W N m sb a0 av len n zs zr bb want cw nu gN k gk cpk) : W.cell? ⟨sb, 0, none⟩ = some (.slice (some ⟨bb, 0, none⟩) want cw) := cell_of h.fin.sc rfl
theorem End.s1 {w W : World} {N : Nat} {m : Nat → Nat} {sb : Nat} {a0 av : Option Addr} {len n : Nat} {zs zr : Nat → Int} {bb want cw nu gN k gk cpk : Nat} (h : End w W N m sb a0 av len n zs zr bb want cw nu gN k gk cpk) : W.cell? ⟨sb, 1, none⟩ = some (.int .i64 nu) := cell_of h.fin.sc rfl
theorem End.ocell {w W : World} {N : Nat} {m : Nat → Nat} {sb : Nat} {a0 av : Option Addr} {len n : Nat} {zs zr : Nat → Int} {bb want cw nu gN k gk cpk : Nat} (h : End w W N m sb a0 av len n zs zr bb want cw nu gN k gk cpk) {i : Nat} (hi : i < N) : W.cell? ⟨w.heap.size + 1, i, none⟩ = some (.int .i64 (m i)) := by
  obtain ⟨oc, o1, o2⟩ := h.fin.ol
  exact cell_of o1 (o2 i hi)
theorem End.hcell {w W : World} {N : Nat} {m : Nat → Nat} {sb : Nat} {a0 av : Option Addr} {len n : Nat} {zs zr : Nat → Int} {bb want cw nu gN k gk cpk : Nat} (h : End w W N m sb a0 av len n zs zr bb want cw nu gN k gk cpk) {i : Nat} (hi : i < want) (hik : i ≠ k) (hiN : i < N) : W.cell? ⟨bb, i, none⟩ = some (.slice (some ⟨w.heap.size + 2 + i, 0, none⟩) (m i) 256) ∧ ∀ j, j < m i → W.cell? ⟨w.heap.size + 2 + i, j, none⟩ = some (.int .i64 (pat i j)) := by
  obtain ⟨bc, b1, b2, _⟩ := h.fin.hd
  have e := b2 i hi hik
  obtain ⟨c, c1, c2, c3⟩ := h.fin.rows i hi hik
  rw [gix_lt hiN] at e c1
  rw [lix_lt hiN] at e c3
  exact ⟨cell_of b1 e, fun j hj => cell_of c1 (c3 j hj)⟩
theorem End.kcell {w W : World} {N : Nat} {m : Nat → Nat} {sb : Nat} {a0 av : Option Addr} {len n : Nat} {zs zr : Nat → Int} {bb want cw nu gN k gk cpk old : Nat} (h : End w W N m sb a0 av len n zs zr bb want cw nu gN k gk cpk) (ho : lix N m k = old) : W.cell? ⟨bb, k, none⟩ = some (.slice (some ⟨gk, 0, none⟩) (old + n) cpk) ∧ (∀ j, j < old → W.cell? ⟨gk, j, none⟩ = some (.int .i64 (pat k j))) ∧ (∀ j, j < n → W.cell? ⟨gk, old + j, none⟩ = some (.int .i64 (zr j))) ∧ (old + n ≤ 256 → cpk = 256) := by
  subst ho
  obtain ⟨bc, b1, _, b2⟩ := h.fin.hd
  obtain ⟨ck, c1, c2, c3⟩ := h.fin.rowk
  exact ⟨cell_of b1 b2, fun j hj => cell_of c1 (c2 j hj), fun j hj => cell_of c1 (c3 j hj), h.fin.capk⟩

end Go.Proofs.Ybulkegew.S6626C

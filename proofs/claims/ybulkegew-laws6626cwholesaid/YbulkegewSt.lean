import Derived.Test.YbulkegewBase
namespace Go.Proofs.Ybulkegew.S6626C
open Go.RowKit
set_option linter.unusedVariables false

/-- Which block holds the store's i-th row. -/
def gix (B0 N gN i : Nat) : Nat := if i < N then B0 + 2 + i else gN
def lix (N : Nat) (m : Nat → Nat) (i : Nat) : Nat := if i < N then m i else 0

theorem gix_lt {B0 N gN i : Nat} (h : i < N) : gix B0 N gN i = B0 + 2 + i := if_pos h
theorem lix_lt {N : Nat} {m : Nat → Nat} {i : Nat} (h : i < N) : lix N m i = m i := if_pos h
theorem gix_ge {B0 N gN i : Nat} (h : N ≤ i) : gix B0 N gN i = gN := if_neg (by omega)
theorem lix_ge {N : Nat} {m : Nat → Nat} {i : Nat} (h : N ≤ i) : lix N m i = 0 := if_neg (by omega)

/-- A row of the store. -/
def RowAt (W : World) (g i l : Nat) : Prop := ∃ c : Array Value, W.heap[g]? = some (.cells c 3 (0, 0)) ∧ c.size = 256 ∧ ∀ j, j < l → c[j]? = some (.int .i64 (pat i j))

/-- The store, its rows and the list of the old lengths in memory. -/
structure St (W : World) (B0 N : Nat) (m : Nat → Nat) (sb bb want cw nu gN : Nat) : Prop where
  sc : W.heap[sb]? = some (.cells #[.slice (some ⟨bb, 0, none⟩) want cw, .int .i64 nu] 29 (0, 0))
  hd : ∃ bc : Array Value, W.heap[bb]? = some (.cells bc 22 (0, 0)) ∧ bc.size = cw ∧ ∀ i, i < want → bc[i]? = some (.slice (some ⟨gix B0 N gN i, 0, none⟩) (lix N m i) 256)
  rows : ∀ i, i < want → RowAt W (gix B0 N gN i) i (lix N m i)
  ol : ∃ oc : Array Value, W.heap[B0 + 1]? = some (.cells oc 3 (0, 0)) ∧ ∀ i, i < N → oc[i]? = some (.int .i64 (m i))
  hsb : sb = B0 + 2 + N
  hbb : bb = B0 ∨ sb < bb
  hwant : want = N ∨ (want = N + 1 ∧ sb < gN ∧ gN ≠ bb)
  hm : ∀ i, i < N → m i ≤ 256

theorem cell_of {W : World} {b t j : Nat} {c : Array Value} {f : Nat × Nat} {v : Value} (h : W.heap[b]? = some (.cells c t f)) (hv : c[j]? = some v) : W.cell? ⟨b, j, none⟩ = some v := by simp [World.cell?, h, hv]
theorem free_of {W : World} {b t : Nat} {c : Array Value} (h : W.heap[b]? = some (.cells c t (0, 0))) (j : Nat) : W.frozen? ⟨b, j, none⟩ = false := by simp [World.frozen?, h]
theorem lt_of {W : World} {b : Nat} {o : Obj} (h : W.heap[b]? = some o) : b < W.heap.size := (Array.getElem?_eq_some_iff.1 h).1

theorem St.s0 {W : World} {B0 N : Nat} {m : Nat → Nat} {sb bb want cw nu gN : Nat} (h : St W B0 N m sb bb want cw nu gN) : W.cell? ⟨sb, 0, none⟩ = some (.slice (some ⟨bb, 0, none⟩) want cw) := cell_of h.sc rfl
theorem St.s1 {W : World} {B0 N : Nat} {m : Nat → Nat} {sb bb want cw nu gN : Nat} (h : St W B0 N m sb bb want cw nu gN) : W.cell? ⟨sb, 1, none⟩ = some (.int .i64 nu) := cell_of h.sc rfl
theorem St.hcell {W : World} {B0 N : Nat} {m : Nat → Nat} {sb bb want cw nu gN : Nat} (h : St W B0 N m sb bb want cw nu gN) {i : Nat} (hi : i < want) : W.cell? ⟨bb, i, none⟩ = some (.slice (some ⟨gix B0 N gN i, 0, none⟩) (lix N m i) 256) := by
  obtain ⟨bc, h1, _, h2⟩ := h.hd
  exact cell_of h1 (h2 i hi)
theorem St.rcell {W : World} {B0 N : Nat} {m : Nat → Nat} {sb bb want cw nu gN : Nat} (h : St W B0 N m sb bb want cw nu gN) {i j : Nat} (hi : i < want) (hj : j < lix N m i) : W.cell? ⟨gix B0 N gN i, j, none⟩ = some (.int .i64 (pat i j)) := by
  obtain ⟨c, h1, _, h2⟩ := h.rows i hi
  exact cell_of h1 (h2 j hj)
theorem St.ocell {W : World} {B0 N : Nat} {m : Nat → Nat} {sb bb want cw nu gN : Nat} (h : St W B0 N m sb bb want cw nu gN) {i : Nat} (hi : i < N) : W.cell? ⟨B0 + 1, i, none⟩ = some (.int .i64 (m i)) := by
  obtain ⟨c, h1, h2⟩ := h.ol
  exact cell_of h1 (h2 i hi)
theorem St.wantN {W : World} {B0 N : Nat} {m : Nat → Nat} {sb bb want cw nu gN : Nat} (h : St W B0 N m sb bb want cw nu gN) : want ≤ N + 1 := by rcases h.hwant with e | ⟨e, _⟩ <;> omega
theorem St.wantle {W : World} {B0 N : Nat} {m : Nat → Nat} {sb bb want cw nu gN : Nat} (h : St W B0 N m sb bb want cw nu gN) : N ≤ want := by rcases h.hwant with e | ⟨e, _⟩ <;> omega
theorem St.lixle {W : World} {B0 N : Nat} {m : Nat → Nat} {sb bb want cw nu gN : Nat} (h : St W B0 N m sb bb want cw nu gN) (i : Nat) : lix N m i ≤ 256 := by
  unfold lix
  split
  · exact h.hm i ‹_›
  · omega

/-- What only blocks that the store does not use can turn. -/
theorem St.kept {W W' : World} {B0 N : Nat} {m : Nat → Nat} {sb bb want cw nu gN : Nat} (h : St W B0 N m sb bb want cw nu gN) (hk : ∀ k, k < W.heap.size → W'.heap[k]? = W.heap[k]?) : St W' B0 N m sb bb want cw nu gN := by
  refine ⟨(hk _ (lt_of h.sc)).trans h.sc, ?_, fun i hi => ?_, ?_, h.hsb, h.hbb, h.hwant, h.hm⟩
  · obtain ⟨bc, h1, h2⟩ := h.hd
    exact ⟨bc, (hk _ (lt_of h1)).trans h1, h2⟩
  · obtain ⟨c, h1, h2⟩ := h.rows i hi
    exact ⟨c, (hk _ (lt_of h1)).trans h1, h2⟩
  · obtain ⟨c, h1, h2⟩ := h.ol
    exact ⟨c, (hk _ (lt_of h1)).trans h1, h2⟩

set_option maxHeartbeats 2000000 in
theorem same_any {B0 N sb bb cw u gN : Nat} {m : Nat → Nat} (w : World) (h : St w B0 N m sb bb N cw u gN) (hN : N ≤ 4096) (hu : u ≤ N) :
    Calls Yba.prog 7 #[.pointer (some ⟨sb, 0, none⟩), .slice (some ⟨B0 + 1, 0, none⟩) N N, .int .i64 u] w fun e w' => e = .returned (.bool true) ∧ ∃ k, w' = w.drewN k := by
  have s0 := h.s0
  have s1 := h.s1
  have HS : Hid (St w B0 N m sb bb N cw u gN) := h
  clear h
  go_enter Yba.func7, Yba.ntmps7
  go_wp2_with fail
  go_loopw [7] (fun i wr => ∃ k nd : Nat, k ≤ N ∧ i = .int .i64 k ∧ wr = w.drewN nd) (fun i _ => N - (intOf i).toNat)
  case atStart => exact ⟨0, 0, Nat.zero_le _, rfl, rfl⟩
  case round =>
    obtain ⟨k, nd, hk, rfl, rfl⟩ := hrel
    by_cases hlt : k < N
    · have hc := HS.out.hcell hlt
      rw [gix_lt hlt, lix_lt hlt] at hc
      have ho := HS.out.ocell hlt
      have hml := HS.out.hm k hlt
      have hB : Hid (∀ n, Calls Yba.prog 8 #[.slice (some ⟨B0 + 2 + k, 0, none⟩) (m k) 256, .int .i64 k, .int .i64 (m k)] (w.drewN (nd + n)) fun e w' => e = .returned (.bool true) ∧ ∃ m, w' = w.drewN (nd + m)) := fun n => (blockok_any (B0 + 2 + k) k (m k) 256 (m k) (w.drewN (nd + n)) (by omega) (Nat.le_refl _) (by omega) (fun j hj => by
        have := HS.out.rcell (i := k) (j := j) hlt (by rw [lix_lt hlt]; exact hj)
        rw [gix_lt hlt] at this
        exact this)).mono fun e w' ⟨h1, h2⟩ => ⟨h1, n, h2⟩
      go_wp2_with fail
      go_quiet ((go_at_call 8; exact hB.out _))
      go_wp2_with fail
      go_roundw
      case rel => exact ⟨k + 1, _, by omega, by go_num, rfl⟩
      case measure => simp [intOf]; omega
    · go_wp2_with fail
      go_ret
      exact ⟨rfl, nd, rfl⟩

end Go.Proofs.Ybulkegew.S6626C

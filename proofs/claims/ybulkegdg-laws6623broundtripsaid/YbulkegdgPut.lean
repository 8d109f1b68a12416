import Derived.Test.YbulkegdgUv
namespace Go.Proofs.Ybulkegdg.S6623B
open Go.RowKit
set_option linter.unusedVariables false

/-- The eight cells of a cursor. -/
structure Cur (w : World) (b : Nat) (g l c r gs ls cs rs : Int) : Prop where
  c0 : w.cell? ⟨b, 0, none⟩ = some (.int .i64 g)
  c1 : w.cell? ⟨b, 1, none⟩ = some (.int .i64 l)
  c2 : w.cell? ⟨b, 2, none⟩ = some (.int .i64 c)
  c3 : w.cell? ⟨b, 3, none⟩ = some (.int .i64 r)
  c4 : w.cell? ⟨b, 4, none⟩ = some (.int .i64 gs)
  c5 : w.cell? ⟨b, 5, none⟩ = some (.int .i64 ls)
  c6 : w.cell? ⟨b, 6, none⟩ = some (.int .i64 cs)
  c7 : w.cell? ⟨b, 7, none⟩ = some (.int .i64 rs)

theorem cell_other {w w' : World} {b j : Nat} (h : w'.heap[b]? = w.heap[b]?) : w'.cell? ⟨b, j, none⟩ = w.cell? ⟨b, j, none⟩ := World.cell?_of_block (w := w) h

theorem Cur.kept {w w' : World} {b : Nat} {g l c r gs ls cs rs : Int} (h : Cur w b g l c r gs ls cs rs) (e : w'.heap[b]? = w.heap[b]?) : Cur w' b g l c r gs ls cs rs :=
  ⟨(cell_other e).trans h.c0, (cell_other e).trans h.c1, (cell_other e).trans h.c2, (cell_other e).trans h.c3, (cell_other e).trans h.c4, (cell_other e).trans h.c5, (cell_other e).trans h.c6, (cell_other e).trans h.c7⟩

theorem Cur.lt {w : World} {b : Nat} {g l c r gs ls cs rs : Int} (h : Cur w b g l c r gs ls cs rs) : b < w.heap.size := World.block_lt_of_cell? w _ h.c0

/-- Values laid one behind the other from offset o on. -/
def put (b : Nat) : Nat → List Value → World → World
  | _, [], w => w
  | o, v :: vs, w => put b (o + 1) vs (w.setCell ⟨b, o, none⟩ v)

theorem put_other (b k : Nat) (h : k ≠ b) : ∀ (vs : List Value) (o : Nat) (w : World), (put b o vs w).heap[k]? = w.heap[k]?
  | [], _, _ => rfl
  | v :: vs, o, w => by
    show (put b (o + 1) vs (w.setCell ⟨b, o, none⟩ v)).heap[k]? = _
    rw [put_other b k h vs, Below.heap_setCell _ _ _ _ h]

theorem put_before (b j : Nat) : ∀ (vs : List Value) (o : Nat) (w : World), j < o → (put b o vs w).cell? ⟨b, j, none⟩ = w.cell? ⟨b, j, none⟩
  | [], _, _, _ => rfl
  | v :: vs, o, w, h => by
    show (put b (o + 1) vs (w.setCell ⟨b, o, none⟩ v)).cell? ⟨b, j, none⟩ = _
    rw [put_before b j vs (o + 1) _ (by omega), World.cell?_setCell_other]
    intro h'; simp at h' <;> omega

theorem put_after (b j : Nat) : ∀ (vs : List Value) (o : Nat) (w : World), o + vs.length ≤ j → (put b o vs w).cell? ⟨b, j, none⟩ = w.cell? ⟨b, j, none⟩
  | [], _, _, _ => rfl
  | v :: vs, o, w, h => by
    show (put b (o + 1) vs (w.setCell ⟨b, o, none⟩ v)).cell? ⟨b, j, none⟩ = _
    simp at h
    rw [put_after b j vs (o + 1) _ (by omega), World.cell?_setCell_other]
    intro h'; simp at h' <;> omega

theorem put_in (b : Nat) : ∀ (vs : List Value) (o : Nat) (w : World) (i : Nat) (v : Value), (∀ j, j < vs.length → ∃ u, w.cell? ⟨b, o + j, none⟩ = some u) → vs[i]? = some v → (put b o vs w).cell? ⟨b, o + i, none⟩ = some v
  | [], _, _, i, v, _, hv => by simp at hv
  | x :: vs, o, w, 0, v, hc, hv => by
    show (put b (o + 1) vs (w.setCell ⟨b, o, none⟩ x)).cell? ⟨b, o, none⟩ = _
    simp at hv; subst hv
    rw [put_before b o vs (o + 1) _ (by omega)]
    obtain ⟨u, hu⟩ := hc 0 (by simp)
    exact World.cell?_setCell_same _ _ _ hu
  | x :: vs, o, w, i + 1, v, hc, hv => by
    show (put b (o + 1) vs (w.setCell ⟨b, o, none⟩ x)).cell? ⟨b, o + (i + 1), none⟩ = _
    rw [show o + (i + 1) = (o + 1) + i by omega]
    refine put_in b vs (o + 1) _ i v (fun j hj => ?_) (by simpa using hv)
    obtain ⟨u, hu⟩ := hc (j + 1) (by simp; omega)
    refine ⟨u, ?_⟩
    rw [World.cell?_setCell_other, show o + 1 + j = o + (j + 1) by omega]
    · exact hu
    · intro h'; simp at h' <;> omega


/-- What put leaves: only block b, the row of v and new blocks have turned; where v' lies. -/
structure PF (w w' : World) (b : Nat) (v v' : Value) : Prop where
  os : w'.os = w.os
  tape : w'.tape = w.tape
  output : w'.output = w.output
  size : w.heap.size ≤ w'.heap.size
  block : ∀ k, k < w.heap.size → k ≠ b → some k ≠ v.ownBlock → w'.heap[k]? = w.heap[k]?
  blk : v'.ownBlock = v.ownBlock ∨ ∃ g, v'.ownBlock = some g ∧ w.heap.size ≤ g
  keep : ∀ g, v.ownBlock = some g → g < w.heap.size → ∀ j, j < sliceLen v → w'.cell? ⟨g, j, none⟩ = w.cell? ⟨g, j, none⟩

theorem put_same_rest (b : Nat) : ∀ (vs : List Value) (o : Nat) (w : World), (put b o vs w).os = w.os ∧ (put b o vs w).tape = w.tape ∧ (put b o vs w).output = w.output ∧ (put b o vs w).heap.size = w.heap.size
  | [], _, _ => ⟨rfl, rfl, rfl, rfl⟩
  | v :: vs, o, w => by
    obtain ⟨h1, h2, h3, h4⟩ := put_same_rest b vs (o + 1) (w.setCell ⟨b, o, none⟩ v)
    exact ⟨h1, h2, h3, h4.trans (by simp)⟩

def eight (g l c r gs ls cs rs : Int) : List Value := [.int .i64 g, .int .i64 l, .int .i64 c, .int .i64 r, .int .i64 gs, .int .i64 ls, .int .i64 cs, .int .i64 rs]

theorem cur_put {w : World} {b : Nat} {g l c r gs ls cs rs g' l' c' r' gs' ls' cs' rs' : Int} (h : Cur w b g l c r gs ls cs rs) : Cur (put b 0 (eight g' l' c' r' gs' ls' cs' rs') w) b g' l' c' r' gs' ls' cs' rs' := by
  have hc : ∀ j, j < (eight g' l' c' r' gs' ls' cs' rs').length → ∃ u, w.cell? ⟨b, 0 + j, none⟩ = some u := by
    intro j hj
    rw [Nat.zero_add]
    match j, hj with
    | 0, _ => exact ⟨_, h.c0⟩
    | 1, _ => exact ⟨_, h.c1⟩
    | 2, _ => exact ⟨_, h.c2⟩
    | 3, _ => exact ⟨_, h.c3⟩
    | 4, _ => exact ⟨_, h.c4⟩
    | 5, _ => exact ⟨_, h.c5⟩
    | 6, _ => exact ⟨_, h.c6⟩
    | 7, _ => exact ⟨_, h.c7⟩
  have k : ∀ i v, (eight g' l' c' r' gs' ls' cs' rs')[i]? = some v → (put b 0 (eight g' l' c' r' gs' ls' cs' rs') w).cell? ⟨b, i, none⟩ = some v := by
    intro i v hv
    have := put_in b (eight g' l' c' r' gs' ls' cs' rs') 0 w i v hc hv
    rwa [Nat.zero_add] at this
  exact ⟨k 0 _ rfl, k 1 _ rfl, k 2 _ rfl, k 3 _ rfl, k 4 _ rfl, k 5 _ rfl, k 6 _ rfl, k 7 _ rfl⟩

/-- The end of put. -/
theorem put_end {w w4 : World} {b nq : Nat} {v v4 : Value} {xs : List Value} {g l c r gs ls cs rs g' l' c' r' gs' ls' cs' rs' : Int} (hcur : Cur w b g l c r gs ls cs rs) (hvb : v.ownBlock ≠ some b) (hst : Step (w.drewN nq) w4 v v4) (hrow : Row w4 v4 xs) :
    Row (put b 0 (eight g' l' c' r' gs' ls' cs' rs') w4) v4 xs ∧ Cur (put b 0 (eight g' l' c' r' gs' ls' cs' rs') w4) b g' l' c' r' gs' ls' cs' rs' ∧ PF w (put b 0 (eight g' l' c' r' gs' ls' cs' rs') w4) b v v4 ∧ v4.ownBlock ≠ some b := by
  have hlt := hcur.lt
  have hb : w4.heap[b]? = w.heap[b]? := hst.grown.block b hlt (fun e => hvb e.symm)
  have hne : v4.ownBlock ≠ some b := by
    rcases hst.blk with e | ⟨q, e, hq⟩
    · rw [e]; exact hvb
    · rw [e]; intro hc; simp at hc; subst hc; simp at hq; omega
  obtain ⟨h1, h2, h3, h4⟩ := put_same_rest b (eight g' l' c' r' gs' ls' cs' rs') 0 w4
  have hg : w4.grownBy (put b 0 (eight g' l' c' r' gs' ls' cs' rs') w4) (some b) := ⟨h1, h2, h3, by omega, fun k hk hne => put_other b k (by intro e; subst e; exact hne rfl) _ _ _⟩
  refine ⟨World.ownsRow.kept hrow hg (.inr hne), cur_put (hcur.kept hb), ?_, hne⟩
  refine ⟨h1.trans hst.grown.os, h2.trans hst.grown.tape, h3.trans hst.grown.output, by rw [h4]; exact hst.grown.size, fun k hk hkb hkv => ?_, hst.blk, fun q hq hqs j hj => ?_⟩
  · rw [put_other b k hkb]
    exact hst.grown.block k hk hkv
  · rw [cell_other (put_other b q (by intro e; subst e; exact hvb hq) _ _ _)]
    exact hst.keep q hq hqs j hj

/-- The header of an entry that is not the byte 'again'. -/
def hdr (d : Int) : Nat := 2 * Lib.zigzag d % 18446744073709551616 + 1

theorem hdr_lt (d : Int) : hdr d < 18446744073709551616 := by unfold hdr; omega

theorem zig_eq (d : Int) (h0 : -9223372036854775808 ≤ d) (h1 : d ≤ 9223372036854775807) :
    bits BinOp.xor IntKind.u64 (IntKind.u64.wrap (wrap64 (d * 2))) (IntKind.u64.wrap (d / 9223372036854775808)) = ((Lib.zigzag d : Nat) : Int) := by
  by_cases hd : 0 ≤ d
  · have e1 : IntKind.u64.wrap (wrap64 (d * 2)) = (((2 * d).toNat : Nat) : Int) := by rw [IntKind.wrap_u64]; unfold wrap64; omega
    have e2 : IntKind.u64.wrap (d / 9223372036854775808) = ((0 : Nat) : Int) := by rw [IntKind.wrap_u64]; omega
    rw [e1, e2, bits_xor_u64_nat _ _ (by omega) (by omega), Nat.xor_zero]
    unfold Lib.zigzag
    rw [if_pos hd]
  · have e1 : IntKind.u64.wrap (wrap64 (d * 2)) = (((2 * d + 18446744073709551616).toNat : Nat) : Int) := by rw [IntKind.wrap_u64]; unfold wrap64; omega
    have e2 : IntKind.u64.wrap (d / 9223372036854775808) = ((2 ^ 64 - 1 : Nat) : Int) := by rw [IntKind.wrap_u64]; omega
    rw [e1, e2, bits_xor_u64_nat _ _ (by omega) (by decide), Nat.xor_comm, Lib.xor_ones64 _ (by omega)]
    unfold Lib.zigzag
    rw [if_neg hd]
    omega

theorem or1_even (a : Nat) : (2 * a) ||| 1 = 2 * a + 1 := by
  have := Nat.two_pow_add_eq_or_of_lt (i := 1) (b := 1) (by decide) a
  simpa using this.symm

theorem hdr_eq (d : Int) : bits BinOp.or IntKind.u64 (IntKind.u64.wrap (((Lib.zigzag d : Nat) : Int) * 2)) 1 = ((hdr d : Nat) : Int) := by
  have e1 : IntKind.u64.wrap (((Lib.zigzag d : Nat) : Int) * 2) = ((2 * (Lib.zigzag d % 9223372036854775808) : Nat) : Int) := by rw [IntKind.wrap_u64]; omega
  have e2 : (1 : Int) = ((1 : Nat) : Int) := rfl
  rw [e1, e2, bits_or_u64_nat _ _ (by omega) (by decide), or1_even]
  unfold hdr
  omega

end Go.Proofs.Ybulkegdg.S6623B

import Derived.Test.YbulkegdgRow
namespace Go.Proofs.Ybulkegdg.S6623B
open Go.RowKit
set_option linter.unusedVariables false

set_option maxHeartbeats 2000000 in
set_option maxRecDepth 100000 in
theorem buv_any (x : Nat) (hx : x < 18446744073709551616) (v : Value) (xs : List Value) (w : World) (hown : Row w v xs) (hlim : xs.length + 10 ≤ 1099511627776) :
    Calls Yba.prog 6 #[v, .int .u64 x] w fun e w' => ∃ v', e = .returned v' ∧ Row w' v' (xs ++ Lib.byteCells (Lib.uvarint x)) ∧ Step w w' v v' := by
  have hlen := Lib.uvarint_length64 hx
  go_enter Yba.func6, Yba.ntmps6
  go_wp2
  go_loopw [0, 1] (fun vb vx wr => ∃ (y : Nat) (pre : List UInt8), vx = .int .u64 y ∧ y ≤ x ∧ Lib.uvarint x = pre ++ Lib.uvarint y ∧ Row wr vb (xs ++ Lib.byteCells pre) ∧ Step w wr v vb)
    (fun _ vx _ => (intOf vx).toNat)
  case atStart => exact ⟨x, [], rfl, Nat.le_refl _, rfl, by simpa [Lib.byteCells] using hown, Step.refl _ _⟩
  case round =>
    obtain ⟨y, pre, rfl, hy, hsplit, hown1, hnx⟩ := hrel
    have hpl : pre.length + (Lib.uvarint y).length ≤ 10 := by
      have h2 := congrArg List.length hsplit
      rw [List.length_append] at h2
      omega
    have hyp := Lib.uvarint_pos y
    have hl2 : (xs ++ Lib.byteCells pre).length + 1 ≤ 1099511627776 := by rw [List.length_append, Lib.byteCells_length]; omega
    have HS : Hid (Lib.uvarint x = pre ++ Lib.uvarint y) := hsplit
    clear hsplit
    by_cases h128 : 128 ≤ y
    · have hor : bits .or .u8 ((y : Int) % 256) 128 = ((y % 128 + 128 : Nat) : Int) := by
        rw [Lib.u8_or128_any _ (by omega) (by omega)]
        omega
      go_wp2_with (at_builtin; refine wpList_append_keep _ rfl _ _ rfl _ _ rfl (hown1.alloc _) ⟨wr.heap.size, 0, none⟩ (Value.int .u8 ((y % 128 + 128 : Nat) : Int)) rfl ?c1 rfl hl2 ?_)
      case c1 => simp
      intro v' w1 hown' hstep
      have hnx1 := (hnx.alloc _).trans hstep
      go_wp2
      go_roundw
      case rel =>
        refine ⟨y / 128, pre ++ [(y % 128 + 128).toUInt8], by go_num, by omega, by rw [HS.out, Lib.uvarint_big h128]; simp, ?_, hnx1⟩
        rw [Lib.byteCells_snoc pre (by omega), ← List.append_assoc]
        simpa using hown'
      case measure => simp [intOf]; omega
    · have hsm : Hid (Lib.uvarint y = [y.toUInt8]) := Lib.uvarint_small (by omega)
      go_wp2_with (at_builtin; refine wpList_append_keep _ rfl _ _ rfl _ _ rfl (hown1.alloc _) ⟨wr.heap.size, 0, none⟩ (Value.int .u8 (y : Int)) rfl ?c1 rfl hl2 ?_)
      case c1 => simp
      intro v' w1 hown' hstep
      have hnx1 := (hnx.alloc _).trans hstep
      go_wp2
      go_ret
      refine ⟨v', rfl, ?_, hnx1⟩
      rw [HS.out, hsm.out, Lib.byteCells_snoc pre (by omega)]
      exact hown'

set_option maxHeartbeats 2000000 in
set_option maxRecDepth 100000 in
theorem auv_any (x : Nat) (hx : x < 18446744073709551616) (v : Value) (xs : List Value) (w : World) (hown : Row w v xs) (hlim : xs.length + 10 ≤ 1099511627776) :
    Calls Yba.prog 11 #[v, .int .u64 x] w fun e w' => ∃ v', e = .returned v' ∧ Row w' v' (xs ++ Lib.byteCells (Lib.uvarint x)) ∧ Step w w' v v' := by
  have hlen := Lib.uvarint_length64 hx
  go_enter Yba.func11, Yba.ntmps11
  go_wp2
  go_loopw [0, 1] (fun vb vx wr => ∃ (y : Nat) (pre : List UInt8), vx = .int .u64 y ∧ y ≤ x ∧ Lib.uvarint x = pre ++ Lib.uvarint y ∧ Row wr vb (xs ++ Lib.byteCells pre) ∧ Step w wr v vb)
    (fun _ vx _ => (intOf vx).toNat)
  case atStart => exact ⟨x, [], rfl, Nat.le_refl _, rfl, by simpa [Lib.byteCells] using hown, Step.refl _ _⟩
  case round =>
    obtain ⟨y, pre, rfl, hy, hsplit, hown1, hnx⟩ := hrel
    have hpl : pre.length + (Lib.uvarint y).length ≤ 10 := by
      have h2 := congrArg List.length hsplit
      rw [List.length_append] at h2
      omega
    have hyp := Lib.uvarint_pos y
    have hl2 : (xs ++ Lib.byteCells pre).length + 1 ≤ 1099511627776 := by rw [List.length_append, Lib.byteCells_length]; omega
    have HS : Hid (Lib.uvarint x = pre ++ Lib.uvarint y) := hsplit
    clear hsplit
    by_cases h128 : 128 ≤ y
    · have hor : bits .or .u8 ((y : Int) % 256) 128 = ((y % 128 + 128 : Nat) : Int) := by
        rw [Lib.u8_or128_any _ (by omega) (by omega)]
        omega
      go_wp2_with (at_builtin; refine wpList_append_keep _ rfl _ _ rfl _ _ rfl (hown1.alloc _) ⟨wr.heap.size, 0, none⟩ (Value.int .u8 ((y % 128 + 128 : Nat) : Int)) rfl ?c1 rfl hl2 ?_)
      case c1 => simp
      intro v' w1 hown' hstep
      have hnx1 := (hnx.alloc _).trans hstep
      go_wp2
      go_roundw
      case rel =>
        refine ⟨y / 128, pre ++ [(y % 128 + 128).toUInt8], by go_num, by omega, by rw [HS.out, Lib.uvarint_big h128]; simp, ?_, hnx1⟩
        rw [Lib.byteCells_snoc pre (by omega), ← List.append_assoc]
        simpa using hown'
      case measure => simp [intOf]; omega
    · have hsm : Hid (Lib.uvarint y = [y.toUInt8]) := Lib.uvarint_small (by omega)
      go_wp2_with (at_builtin; refine wpList_append_keep _ rfl _ _ rfl _ _ rfl (hown1.alloc _) ⟨wr.heap.size, 0, none⟩ (Value.int .u8 (y : Int)) rfl ?c1 rfl hl2 ?_)
      case c1 => simp
      intro v' w1 hown' hstep
      have hnx1 := (hnx.alloc _).trans hstep
      go_wp2
      go_ret
      refine ⟨v', rfl, ?_, hnx1⟩
      rw [HS.out, hsm.out, Lib.byteCells_snoc pre (by omega)]
      exact hown'


theorem avar_any (x : Int) (h0 : -9223372036854775808 ≤ x) (h1 : x ≤ 9223372036854775807) (v : Value) (xs : List Value) (w : World) (hown : Row w v xs) (hlim : xs.length + 10 ≤ 1099511627776) :
    Calls Yba.prog 12 #[v, .int .i64 x] w fun e w' => ∃ v', e = .returned v' ∧ Row w' v' (xs ++ Lib.byteCells (Lib.uvarint (Lib.zigzag x))) ∧ Step w w' v v' := by
  have hU := auv_any (Lib.zigzag x) (Lib.zigzag_lt h0 h1) v xs w hown hlim
  by_cases hneg : x < 0
  · rw [← Lib.zigzag_neg h0 hneg] at hU
    go_enter Yba.func12, Yba.ntmps12
    go_wp2_with (go_at_call 11; refine hU.mono ?_; rintro e w1 ⟨v', rfl, ho, hb⟩)
    go_wp2
    go_ret
    exact ⟨v', rfl, ho, hb⟩
  · rw [Lib.zigzag_nonneg (by omega)] at hU
    go_enter Yba.func12, Yba.ntmps12
    go_wp2_with (go_at_call 11; refine hU.mono ?_; rintro e w1 ⟨v', rfl, ho, hb⟩)
    go_wp2
    go_ret
    exact ⟨v', rfl, ho, hb⟩

theorem not64 (x : Int) (h0 : -9223372036854775808 ≤ x) (h1 : x < 0) : bits .xor .i64 (-1) x = -x - 1 := by
  show IntKind.i64.wrap ((BitVec.ofInt 64 (-1) ^^^ BitVec.ofInt 64 x).toNat : Int) = _
  have e1 : (BitVec.ofInt 64 (-1)).toNat = 2 ^ 64 - 1 := by decide
  have e2 : (BitVec.ofInt 64 x).toNat = (x + 18446744073709551616).toNat := by
    rw [BitVec.toNat_ofInt]
    congr 1
    omega
  rw [BitVec.toNat_xor, e1, e2, Lib.xor_ones64 _ (by omega), IntKind.wrap_i64]
  omega

theorem zz_neg (x : Int) (h1 : x < 0) : ((Lib.zigzag x : Nat) : Int) = (-x - 1) * 2 + 1 := by
  unfold Lib.zigzag
  rw [if_neg (by omega)]
  omega

set_option maxHeartbeats 400000 in
theorem zz_any (x : Int) (h0 : -9223372036854775808 ≤ x) (h1 : x ≤ 9223372036854775807) (w : World) :
    Calls Yba.prog 7 #[.int .i64 x] w fun e w' => e = .returned (.int .u64 (Lib.zigzag x : Nat)) ∧ w = w' := by
  by_cases hneg : 0 ≤ x
  · have HZ : Hid (((Lib.zigzag x : Nat) : Int) = x * 2) := Lib.zigzag_nonneg hneg
    go_enter Yba.func7, Yba.ntmps7
    go_wp2
    go_ret
    rw [HZ.out]
    exact ⟨rfl, rfl⟩
  · have hneg' : x < 0 := by omega
    have HZ : Hid (((Lib.zigzag x : Nat) : Int) = (-x - 1) * 2 + 1) := zz_neg x hneg'
    have hn := not64 x h0 hneg'
    have hs : IntKind.i64.signed = true := rfl
    go_enter Yba.func7, Yba.ntmps7
    go_wp2
    go_ret
    rw [HZ.out]
    exact ⟨rfl, rfl⟩

/-- slices.Equal of two slices of the same bytes. -/
def Cells (w : World) (a : Option Addr) (n : Nat) (zs : Nat → Int) : Prop := ∀ i, i < n → ∃ b off, a = some ⟨b, off, none⟩ ∧ w.cell? ⟨b, off + i, none⟩ = some (.int .u8 (zs i))

set_option maxHeartbeats 1000000 in
theorem equal_any (a1 a2 : Option Addr) (n c1 c2 : Nat) (zs : Nat → Int) (w : World) (hn : n ≤ 1099511627776) (h1 : Cells w a1 n zs) (h2 : Cells w a2 n zs) :
    Calls Yba.prog 9 #[.slice a1 n c1, .slice a2 n c2] w fun e w' => e = .returned (.bool true) ∧ ∃ k, w' = w.drewN k := by
  go_enter Yba.func9, Yba.ntmps9
  go_wp2
  go_loopw [13] (fun i wr => ∃ k nd : Nat, k ≤ n ∧ i = .int .i64 k ∧ wr = w.drewN nd) (fun i _ => n - (intOf i).toNat)
  case atStart => exact ⟨0, 0, Nat.zero_le _, rfl, rfl⟩
  case round =>
    obtain ⟨k, nd, hk, rfl, rfl⟩ := hrel
    by_cases hlt : k < n
    · obtain ⟨b, off, e1, q1⟩ := h1 k hlt
      obtain ⟨b', off', e2, q2⟩ := h2 k hlt
      subst e1 e2
      clear h1 h2
      go_wp2
      go_quiet (fail)
      go_wp2
      go_roundw
      case rel => exact ⟨k + 1, _, by omega, by go_num, rfl⟩
      case measure => simp [intOf]; omega
    · clear h1 h2
      go_wp2
      go_ret
      exact ⟨rfl, nd, rfl⟩

end Go.Proofs.Ybulkegdg.S6623B

import Derived.Test.YbulkegdgFact
import Derived.Test.YbulkegdgShelf
import Derived.BigRegion
namespace Go.Proofs.Ybulkegdg.S6623B
open Go.RowKit
set_option linter.unusedVariables false

theorem dec_from : ∀ (m i y acc : Nat) (rest : List UInt8), i + m = 9 → y * 2 ^ (7 * i) < 18446744073709551616 → Lib.uvarintFrom i acc (Lib.uvarint y ++ rest) = (acc + y * 2 ^ (7 * i), (i : Int) + ((Lib.uvarint y).length : Int))
  | m, i, y, acc, rest, hm, hy => by
    have h9 : i = 9 → y < 2 := by
      rintro rfl
      have e : (2 : Nat) ^ (7 * 9) = 9223372036854775808 := by decide
      rw [e] at hy
      omega
    by_cases h : y < 128
    · rw [Lib.uvarint_small h]
      have ey : (y.toUInt8).toNat = y := Lib.toUInt8_toNat (by omega)
      simp only [List.cons_append, List.nil_append, Lib.uvarintFrom, ey]
      rw [if_neg (by omega), if_pos h, if_neg (by intro hc; have := h9 hc.1; omega)]
      simp
    · match m, hm with
      | 0, hm => exact absurd (h9 (by omega)) (by omega)
      | m + 1, hm =>
        rw [Lib.uvarint_big (by omega)]
        have ey : ((y % 128 + 128).toUInt8).toNat = y % 128 + 128 := Lib.toUInt8_toNat (by omega)
        simp only [List.cons_append, Lib.uvarintFrom, ey]
        rw [if_neg (by omega), if_neg (by omega)]
        have e7 : (2 : Nat) ^ (7 * (i + 1)) = 128 * 2 ^ (7 * i) := by
          rw [Nat.mul_add, Nat.pow_add]
          have : (2 : Nat) ^ (7 * 1) = 128 := by decide
          rw [this, Nat.mul_comm]
        have hle : y / 128 * (128 * 2 ^ (7 * i)) ≤ y * 2 ^ (7 * i) := by
          rw [← Nat.mul_assoc]
          exact Nat.mul_le_mul_right _ (by omega)
        rw [dec_from m (i + 1) (y / 128) _ rest (by omega) (by rw [e7]; omega), e7]
        have e8 : (y % 128 + 128) % 128 = y % 128 := by omega
        have e9 : y % 128 * 2 ^ (7 * i) + y / 128 * (128 * 2 ^ (7 * i)) = y * 2 ^ (7 * i) := by
          rw [← Nat.mul_assoc, ← Nat.add_mul]
          congr 1
          omega
        rw [e8, Nat.add_assoc, e9]
        simp
        omega

theorem dec_enc (y : Nat) (hy : y < 18446744073709551616) (rest : List UInt8) : Lib.uvarintDec (Lib.uvarint y ++ rest) = (y, ((Lib.uvarint y).length : Int)) := by
  unfold Lib.uvarintDec
  rw [dec_from 9 0 y 0 rest rfl (by simpa using hy)]
  simp

theorem unzig (x : Int) : Lib.unzigzag (Lib.zigzag x) = x := by
  unfold Lib.unzigzag Lib.zigzag
  split <;> split <;> omega

/-- The bytes l lie at block o from offset off on. -/
def Lies (w : World) (o off : Nat) (l : List UInt8) : Prop := ∀ j (hj : j < l.length), w.cell? ⟨o, off + j, none⟩ = some (.int .u8 (l[j]).toNat)

theorem uv_at (o off n cp x : Nat) (rest : List UInt8) (w : World) (hx : x < 18446744073709551616) (hn : (Lib.uvarint x ++ rest).length = n) (hl : Lies w o off (Lib.uvarint x ++ rest)) :
    Calls Yba.prog 13 #[.slice (some ⟨o, off, none⟩) n cp] w fun e w' => e = .returned (.tuple #[.int .u64 x, .int .i64 (Lib.uvarint x).length]) ∧ w = w' := by
  have h := Yba.binary_Uvarint o off n cp (Lib.uvarint x ++ rest) w hn hl
  rw [dec_enc x hx rest] at h
  exact h.mono fun e w' ⟨h1, h2⟩ => ⟨h1, h2.symm⟩

theorem v_at (o off n cp : Nat) (x : Int) (rest : List UInt8) (w : World) (h0 : -9223372036854775808 ≤ x) (h1 : x ≤ 9223372036854775807) (hn : (Lib.uvarint (Lib.zigzag x) ++ rest).length = n) (hl : Lies w o off (Lib.uvarint (Lib.zigzag x) ++ rest)) :
    Calls Yba.prog 14 #[.slice (some ⟨o, off, none⟩) n cp] w fun e w' => e = .returned (.tuple #[.int .i64 x, .int .i64 (Lib.uvarint (Lib.zigzag x)).length]) ∧ w = w' := by
  have h := Yba.binary_Varint o off n cp (Lib.uvarint (Lib.zigzag x) ++ rest) w hn hl
  unfold Lib.varintDec at h
  rw [dec_enc _ (Lib.zigzag_lt h0 h1) rest] at h
  simp only [unzig] at h
  exact h.mono fun e w' ⟨h1, h2⟩ => ⟨h1, h2.symm⟩

theorem Lies.drop {w : World} {o off : Nat} {a b : List UInt8} (h : Lies w o off (a ++ b)) : Lies w o (off + a.length) b := by
  intro j hj
  have := h (a.length + j) (by simp; omega)
  rw [Nat.add_assoc, this]
  simp

theorem first_odd (d : Int) (rest : List UInt8) : ∃ b : UInt8, (Lib.uvarint (hdr d) ++ rest)[0]? = some b ∧ b.toNat % 2 = 1 := by
  by_cases h : hdr d < 128
  · rw [Lib.uvarint_small h]
    refine ⟨_, rfl, ?_⟩
    rw [Lib.toUInt8_toNat (by omega)]
    unfold hdr; omega
  · rw [Lib.uvarint_big (by omega)]
    refine ⟨_, rfl, ?_⟩
    rw [Lib.toUInt8_toNat (by omega)]
    unfold hdr; omega

theorem shr2 (d : Int) (h0 : -4611686018427387904 ≤ d) (h1 : d < 4611686018427387904) :
    bits BinOp.xor IntKind.i64 (((hdr d : Nat) : Int) / 4) (-(((hdr d : Nat) : Int) / 2 % 2)) = d := by
  have hz : Lib.zigzag d < 9223372036854775808 := by unfold Lib.zigzag; split <;> omega
  have e4 : ((hdr d : Nat) : Int) / 4 = ((Lib.zigzag d / 2 : Nat) : Int) := by unfold hdr; omega
  have e2 : ((hdr d : Nat) : Int) / 2 % 2 = ((Lib.zigzag d % 2 : Nat) : Int) := by unfold hdr; omega
  rw [e4, e2]
  by_cases hd : 0 ≤ d
  · have q1 : Lib.zigzag d % 2 = 0 := by unfold Lib.zigzag; rw [if_pos hd]; omega
    have q2 : ((Lib.zigzag d / 2 : Nat) : Int) = d := by unfold Lib.zigzag; rw [if_pos hd]; omega
    rw [q1, q2]
    show IntKind.i64.wrap ((BitVec.ofInt 64 d ^^^ BitVec.ofInt 64 0).toNat : Int) = _
    rw [show BitVec.ofInt 64 0 = 0#64 from rfl, BitVec.xor_zero, BitVec.toNat_ofInt, IntKind.wrap_i64]
    omega
  · have q1 : Lib.zigzag d % 2 = 1 := by unfold Lib.zigzag; rw [if_neg hd]; omega
    have q2 : ((Lib.zigzag d / 2 : Nat) : Int) = -d - 1 := by unfold Lib.zigzag; rw [if_neg hd]; omega
    rw [q1, q2]
    show IntKind.i64.wrap ((BitVec.ofInt 64 (-d - 1) ^^^ BitVec.ofInt 64 (-1)).toNat : Int) = _
    have k1 : (BitVec.ofInt 64 (-1)).toNat = 2 ^ 64 - 1 := by decide
    have k2 : (BitVec.ofInt 64 (-d - 1)).toNat = (-d - 1).toNat := by
      rw [BitVec.toNat_ofInt]
      congr 1
      omega
    rw [BitVec.toNat_xor, k1, k2, Nat.xor_comm, Lib.xor_ones64 _ (by omega), IntKind.wrap_i64]
    omega

end Go.Proofs.Ybulkegdg.S6623B

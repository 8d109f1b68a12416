import Derived.Test.YbulkegdgDec
namespace Go.Proofs.Ybulkegdg.S6623B
open Go.RowKit
set_option linter.unusedVariables false

theorem gb_drew {w w1 : World} {b : Option Nat} (h : w.grownBy w1 b) : w.grownBy w1.drew b := ⟨h.os, h.tape, h.output, h.size, h.block⟩
theorem gb_set {w w1 : World} {b j : Nat} {u : Value} (h : w.grownBy w1 (some b)) : w.grownBy (w1.setCell ⟨b, j, none⟩ u) (some b) :=
  ⟨h.os, h.tape, h.output, by simp [World.setCell]; exact h.size, fun k hk hne => by rw [Below.heap_setCell _ _ _ _ (by rintro rfl; exact hne rfl)]; exact h.block k hk hne⟩

set_option maxHeartbeats 2000000 in
set_option maxRecDepth 100000 in
theorem get_same (b o n cp : Nat) (G L C R gs ls cs rs : Int) (w : World) (hcur : Cur w b G L C R gs ls cs rs) (hf : ∀ j, w.frozen? ⟨b, j, none⟩ = false) (hn : 1 ≤ n) (hob : ¬ o = b) (hl : w.cell? ⟨o, 0, none⟩ = some (.int .u8 0)) :
    Calls Yba.prog 10 #[.pointer (some ⟨b, 0, none⟩), .slice (some ⟨o, 0, none⟩) n cp] w fun e w' => e = .returned (.int .i64 1) ∧ Cur w' b (wrap64 (G + gs)) (wrap64 (L + ls)) (wrap64 (C + cs)) (wrap64 (R + rs)) gs ls cs rs ∧ w.grownBy w' (some b) := by
  obtain ⟨c0, c1, c2, c3, c4, c5, c6, c7⟩ := hcur
  go_enter Yba.func10, Yba.ntmps10
  go_wp2_with fail
  go_region
  go_wp2_with fail
  go_region
  go_wp2_with fail
  go_region
  go_wp2_with fail
  go_region
  go_wp2_with fail
  go_ret
  refine ⟨rfl, ?_, ?_⟩
  · constructor <;> go_simp
  · repeat (first | exact World.grownBy.refl _ _ | apply gb_drew | apply gb_set)

theorem gists_eq (dg : Int) (b1 : -4611686018427387904 ≤ dg) (b1' : dg < 4611686018427387904) : bits BinOp.xor IntKind.i64 (((hdr dg : Nat) : Int) / 4) (wrap64 (-wrap64 (bits BinOp.and IntKind.u64 (((hdr dg : Nat) : Int) / 2) 1))) = dg := by
  have h := hdr_lt dg
  rw [Lib.u64_and1 _ (by omega) (by omega)]
  have e : wrap64 (-wrap64 (((hdr dg : Nat) : Int) / 2 % 2)) = -(((hdr dg : Nat) : Int) / 2 % 2) := by unfold wrap64; omega
  rw [e]
  exact shr2 dg b1 b1'

theorem Cur.drew {w : World} {b : Nat} {g l c r gs ls cs rs : Int} (h : Cur w b g l c r gs ls cs rs) : Cur w.drew b g l c r gs ls cs rs := ⟨h.c0, h.c1, h.c2, h.c3, h.c4, h.c5, h.c6, h.c7⟩

theorem get_end {w : World} {b : Nat} {G L C R gs ls cs rs : Int} (h : Cur w b G L C R gs ls cs rs) (x0 x1 x2 x3 x4 x5 x6 x7 : Int) :
    Cur (((((((((w.setCell ⟨b, 0, none⟩ (.int .i64 x0)).setCell ⟨b, 1, none⟩ (.int .i64 x1)).setCell ⟨b, 2, none⟩ (.int .i64 x2)).setCell ⟨b, 3, none⟩ (.int .i64 x3)).setCell ⟨b, 4, none⟩ (.int .i64 x4)).setCell ⟨b, 5, none⟩ (.int .i64 x5)).setCell ⟨b, 6, none⟩ (.int .i64 x6)).setCell ⟨b, 7, none⟩ (.int .i64 x7)).drew) b x0 x1 x2 x3 x4 x5 x6 x7 ∧ w.grownBy (((((((((w.setCell ⟨b, 0, none⟩ (.int .i64 x0)).setCell ⟨b, 1, none⟩ (.int .i64 x1)).setCell ⟨b, 2, none⟩ (.int .i64 x2)).setCell ⟨b, 3, none⟩ (.int .i64 x3)).setCell ⟨b, 4, none⟩ (.int .i64 x4)).setCell ⟨b, 5, none⟩ (.int .i64 x5)).setCell ⟨b, 6, none⟩ (.int .i64 x6)).setCell ⟨b, 7, none⟩ (.int .i64 x7)).drew) (some b) := by
  have e : ((((((((w.setCell ⟨b, 0, none⟩ (.int .i64 x0)).setCell ⟨b, 1, none⟩ (.int .i64 x1)).setCell ⟨b, 2, none⟩ (.int .i64 x2)).setCell ⟨b, 3, none⟩ (.int .i64 x3)).setCell ⟨b, 4, none⟩ (.int .i64 x4)).setCell ⟨b, 5, none⟩ (.int .i64 x5)).setCell ⟨b, 6, none⟩ (.int .i64 x6)).setCell ⟨b, 7, none⟩ (.int .i64 x7)) = put b 0 (eight x0 x1 x2 x3 x4 x5 x6 x7) w := rfl
  rw [e]
  obtain ⟨h1, h2, h3, h4⟩ := put_same_rest b (eight x0 x1 x2 x3 x4 x5 x6 x7) 0 w
  have hg : w.grownBy (put b 0 (eight x0 x1 x2 x3 x4 x5 x6 x7) w) (some b) := ⟨h1, h2, h3, Nat.le_of_eq h4.symm, fun k hk hne => put_other b k (by intro e; subst e; exact hne rfl) _ _ _⟩
  have hc : Cur (put b 0 (eight x0 x1 x2 x3 x4 x5 x6 x7) w) b x0 x1 x2 x3 x4 x5 x6 x7 := cur_put h
  generalize put b 0 (eight x0 x1 x2 x3 x4 x5 x6 x7) w = W at hg hc ⊢
  exact ⟨hc.drew, gb_drew hg⟩

set_option maxHeartbeats 2000000 in
set_option maxRecDepth 100000 in
theorem get_diff (b o n cp n1 n2 n3 n4 : Nat) (G L C R gs ls cs rs dg dl dc dr : Int) (w : World) (hcur : Cur w b G L C R gs ls cs rs) (hf : ∀ j, w.frozen? ⟨b, j, none⟩ = false) (hob : ¬ o = b) (b1 : -4611686018427387904 ≤ dg) (b1' : dg < 4611686018427387904) (b2 : In64 dl) (b3 : In64 dc) (b4 : In64 dr)
    (hn1 : (Lib.uvarint (hdr dg)).length = n1) (hn2 : (Lib.uvarint (Lib.zigzag dl)).length = n2) (hn3 : (Lib.uvarint (Lib.zigzag dc)).length = n3) (hn4 : (Lib.uvarint (Lib.zigzag dr)).length = n4) (hn : n = n1 + n2 + n3 + n4) (hcp : n ≤ cp) (hl : Lies w o 0 (entry dg dl dc dr)) :
    Calls Yba.prog 10 #[.pointer (some ⟨b, 0, none⟩), .slice (some ⟨o, 0, none⟩) n cp] w fun e w' => e = .returned (.int .i64 n) ∧ Cur w' b (wrap64 (G + dg)) (wrap64 (L + dl)) (wrap64 (C + dc)) (wrap64 (R + dr)) dg dl dc dr ∧ w.grownBy w' (some b) := by
  subst hn
  have p1 := Lib.uvarint_pos (hdr dg)
  have p2 := Lib.uvarint_pos (Lib.zigzag dl)
  have p3 := Lib.uvarint_pos (Lib.zigzag dc)
  have p4 := Lib.uvarint_pos (Lib.zigzag dr)
  have m1 := Lib.uvarint_length64 (hdr_lt dg)
  have m2 := Lib.uvarint_length64 (Lib.zigzag_lt b2.1 b2.2)
  have m3 := Lib.uvarint_length64 (Lib.zigzag_lt b3.1 b3.2)
  have m4 := Lib.uvarint_length64 (Lib.zigzag_lt b4.1 b4.2)
  have hl2 := hl.drop
  have hl3 := hl2.drop
  have hl4 := hl3.drop
  obtain ⟨fb, hfb, hodd⟩ := first_odd dg (Lib.uvarint (Lib.zigzag dl) ++ (Lib.uvarint (Lib.zigzag dc) ++ Lib.uvarint (Lib.zigzag dr)))
  have hfc : w.cell? ⟨o, 0, none⟩ = some (.int .u8 fb.toNat) := by
    have h0 := hl 0 (by unfold entry; simp; omega)
    obtain ⟨hh, e⟩ := List.getElem?_eq_some_iff.1 hfb
    rw [Nat.zero_add] at h0
    rw [h0]
    unfold entry
    simp only [e]
  have hU := uv_at o 0 (n1 + n2 + n3 + n4) cp (hdr dg) _ w (hdr_lt dg) (by simp [hn1, hn2, hn3, hn4]; omega) hl
  have hV2 := v_at o (0 + (Lib.uvarint (hdr dg)).length) (n2 + n3 + n4) (cp - n1) dl _ w b2.1 b2.2 (by simp [hn2, hn3, hn4]; omega) hl2
  have hV3 := v_at o (0 + (Lib.uvarint (hdr dg)).length + (Lib.uvarint (Lib.zigzag dl)).length) (n3 + n4) (cp - (n1 + n2)) dc _ w b3.1 b3.2 (by simp [hn3, hn4]) hl3
  have hV4 := v_at o (0 + (Lib.uvarint (hdr dg)).length + (Lib.uvarint (Lib.zigzag dl)).length + (Lib.uvarint (Lib.zigzag dc)).length) n4 (cp - (n1 + n2 + n3)) dr [] w b4.1 b4.2 (by simp [hn4]) (by simpa using hl4)
  rw [hn1] at hU p1 m1
  rw [hn1, hn2] at hV2
  rw [hn1, hn2, hn3] at hV3
  rw [hn1, hn2, hn3, hn4] at hV4
  rw [hn2] at p2 m2
  rw [hn3] at p3 m3
  rw [hn4] at p4 m4
  rw [Nat.zero_add] at hV2 hV3 hV4
  have HC : Hid (Cur w b G L C R gs ls cs rs) := hcur
  obtain ⟨c0, c1, c2, c3, c4, c5, c6, c7⟩ := hcur
  have hfb0 : ((fb.toNat : Int) == 0) = false := by rw [beq_eq_false_iff_ne]; omega
  have hz := gists_eq dg b1 b1'
  have HU : Hid (Calls Yba.prog 13 #[.slice (some ⟨o, 0, none⟩) (n1 + n2 + n3 + n4) cp] w fun e w' => e = .returned (.tuple #[.int .u64 (hdr dg), .int .i64 n1]) ∧ w = w') := hU
  have HV2 : Hid (Calls Yba.prog 14 #[.slice (some ⟨o, n1, none⟩) (n2 + n3 + n4) (cp - n1)] w fun e w' => e = .returned (.tuple #[.int .i64 dl, .int .i64 n2]) ∧ w = w') := hV2
  have HV3 : Hid (Calls Yba.prog 14 #[.slice (some ⟨o, n1 + n2, none⟩) (n3 + n4) (cp - (n1 + n2))] w fun e w' => e = .returned (.tuple #[.int .i64 dc, .int .i64 n3]) ∧ w = w') := hV3
  have HV4 : Hid (Calls Yba.prog 14 #[.slice (some ⟨o, n1 + n2 + n3, none⟩) n4 (cp - (n1 + n2 + n3))] w fun e w' => e = .returned (.tuple #[.int .i64 dr, .int .i64 n4]) ∧ w = w') := hV4
  have hh64 : ((hdr dg : Nat) : Int) ≤ 18446744073709551615 := by have := hdr_lt dg; omega
  clear hU hV2 hV3 hV4 hl hl2 hl3 hl4 hfb hodd hn1 hn2 hn3 hn4
  go_enter Yba.func10, Yba.ntmps10
  go_wp2_with fail
  refine (HU.out).mono ?_
  rintro e w1 ⟨rfl, rfl⟩
  go_wp2_with fail
  rw [show n1 + n2 + n3 + n4 - n1 = n2 + n3 + n4 by omega]
  refine (HV2.out).mono ?_
  rintro e w1 ⟨rfl, rfl⟩
  go_wp2_with fail
  rw [show n1 + n2 + n3 + n4 - (n1 + n2) = n3 + n4 by omega]
  refine (HV3.out).mono ?_
  rintro e w1 ⟨rfl, rfl⟩
  go_wp2_with fail
  rw [show n1 + n2 + n3 + n4 - (n1 + n2 + n3) = n4 by omega]
  refine (HV4.out).mono ?_
  rintro e w1 ⟨rfl, rfl⟩
  go_wp2_with fail
  clear HU HV2 HV3 HV4 hz hfc hfb0 hh64
  go_region
  go_wp2_with fail
  go_ret
  refine ⟨?_, get_end HC.out _ _ _ _ _ _ _ _⟩
  simp
end Go.Proofs.Ybulkegdg.S6623B

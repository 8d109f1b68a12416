import Derived.Test.YbulkegbqFacts
namespace Go.Proofs.Ybulkegbq.lawS6620BWhole
open Go.RowKit
set_option linter.unusedVariables false

set_option maxRecDepth 100000 in
set_option maxHeartbeats 4000000 in
theorem walk_some_room (a1 a2 a3 a4 a5 a6 a7 : Int) (a8 : ByteArray) (b off : Nat) (sp : Option Nat) (len cap : Nat) (bs : Nat → Bool) (L B : Nat) (w : World) (h1 : 0 ≤ a1) (h2 : 0 ≤ a2) (h1' : a1 ≤ 65535) (h2' : a2 ≤ 65535) (hL : a1 % 600 = (L : Int)) (hB : a2 % 1000 = (B : Int)) (hL1 : 1 ≤ L) (hL3 : L < 600) (hB3 : B < 1000) (hlen : len ≤ 1048576)
    (hcell : ∀ i, i < len → w.cell? ⟨b, off + i, sp⟩ = some (.bool (bs i))) :
    Calls Yba.prog 3 #[.bool true, .int .u16 a1, .int .u16 a2, .int .i64 a3, .int .i64 a4, .int .u16 a5, .int .u32 a6, .int .u32 a7, .string a8, .slice (some ⟨b, off, sp⟩) len cap] w fun e w' => e = .returned (.bool true) ∧ Below w.heap.size w w' := by
  have hmk := fun w => mk25 w len hlen
  have hmk60 := fun w => mk60n w L (by omega)
  have hq24 := neqN 24 4 Yba.underlying24
  go_enter Yba.func3, Yba.ntmps3
  go_wp2_with fail
  clear hq24
  go_loopw [44] (fun i wr => ∃ k : Nat, k ≤ len ∧ i = .int .i64 k ∧ Kids w w.heap.size len k wr) (fun i _ => len - (intOf i).toNat)
  case atStart => exact ⟨0, Nat.zero_le _, rfl, Kids.start w _ len rfl⟩
  case round =>
    obtain ⟨k, hk, rfl, hkids⟩ := hrel
    by_cases hlt : k < len
    · obtain ⟨v0, hv0⟩ := hkids.cell hlt
      have hfr := hkids.free k
      have hsz := hkids.lt
      have hc := hcell k hlt
      have hb : b < w.heap.size := World.block_lt_of_cell? w _ hc
      have hcr : wr.cell? ⟨b, off + k, sp⟩ = some (.bool (bs k)) := (hkids.below.cell (p := ⟨b, off + k, sp⟩) hb).trans hc
      have hsp : sp = none := by
        cases sp with
        | none => rfl
        | some s => exfalso; unfold World.cell? at hc; split at hc <;> simp at hc
      subst hsp
      clear hc
      have HK : Hid (Kids w w.heap.size len k wr) := hkids
      clear hkids
      cases hbk : bs k with
      | true =>
        rw [hbk] at hcr
        go_wp2_with fail
        go_roundw
        case rel => exact ⟨k + 1, by omega, by go_num, HK.out.skip⟩
        case measure => simp [intOf]; omega
      | false =>
        rw [hbk] at hcr
        go_wp2_with fail
        go_roundw
        case rel => exact ⟨k + 1, by omega, by go_num, HK.out.store hlt⟩
        case measure => simp [intOf]; omega
    · obtain rfl : k = len := by omega
      obtain ⟨c, hcp, hkin⟩ := copy_run hkids
      have hcp0 := hcp 0
      simp only [World.drewN_zero] at hcp0
      have hsz := hkids.lt
      have HB := hkids.below
      have HK : Hid (∀ w', (∀ b, w.heap.size ≤ b → b < wr.heap.size + 1 → w'.heap[b]? = (wr.alloc (.cells c 26)).heap[b]?) → Kin w' w.heap.size wr.heap.size k) := hkin
      clear hkids hkin hcp hcell
      go_wp2_with fail
      refine (room_at wr c a8 L B a3 a4 hL1 hL3 _ _ _ _ _ _ _ rfl).mono ?_
      rintro e w' ⟨rb, hrb, rfl, hnb, hkb, ⟨oo, hoo, m1⟩, m0, m2, m3, m4, m5⟩
      obtain ⟨ht, hkin⟩ := tail_facts (w := w) (text := a8) (c := c) (wr := wr) (n := k) hsz (fun k hk => by rw [Below.heap_alloc _ _ _ (by simp <;> omega), Below.heap_alloc _ _ _ (by simp <;> omega)]) (by simp) (fun k hk h => by omega) hkb HK.out
      have hBel : Below w.heap.size w w' := ((((HB.alloc (by omega) _).alloc (by simp <;> omega) _).alloc (by simp <;> omega) _).alloc (by simp <;> omega) _).trans (hkb.below (by simp <;> omega) (fun k hk h => by omega))
      obtain ⟨n0, n1, n2, n3, n4, n5, n6, n7, n8, n9, n10, n11, n12, n13, n14⟩ := hnb
      obtain ⟨t0, t1, t2, t3, t4, t5, t6⟩ := ht
      have HBel : Hid (Below w.heap.size w w') := hBel
      clear hkb HB hBel hcp0 hmk HK hmk60
      have hnn := neq_node
      have hq25 := eqlN 25 26 Yba.underlying25
      have hq25n := neqN 25 26 Yba.underlying25
      have hq57 := neq_ptr 57 26 Yba.underlying57 (by kernel_rfl)
      have hq26 := neq_ptr 26 32 Yba.underlying26 (by kernel_rfl)
      have hq30 := neq_ptr 30 56 Yba.underlying30 (by kernel_rfl)
      have hq61 := neq_ptr 61 60 Yba.underlying61 (by kernel_rfl)
      have hq34 := neqN 34 23 Yba.underlying34
      have hq35 := neqN 35 107 Yba.underlying35
      have hq36 := neqN 36 111 Yba.underlying36
      have hq41 := neqN 41 32 Yba.underlying41
      go_wp2_with fail
      go_quiet (fail)
      go_wp2_with fail
      by_cases hk0 : 0 < k
      · have hd : decide ((0 : Int) < (k : Int)) = true := by simpa using hk0
        go_quiet (fail)
        go_wp2_with fail
        go_loopw [151] (fun i wv => ∃ m nd : Nat, m ≤ k ∧ i = .int .i64 m ∧ wv = w'.drewN nd) (fun i _ => k - (intOf i).toNat)
        case atStart => exact ⟨0, _, Nat.zero_le _, rfl, rfl⟩
        case round =>
          obtain ⟨m, nd, hm, rfl, rfl⟩ := hrel
          by_cases hlt2 : m < k
          · have hmi : (m : Int) < 1048576 := by omega
            rcases hkin.at_ m hlt2 with ⟨q1, q2⟩ | ⟨nb, q1, q2, q3⟩
            · go_wp2_with fail
              go_quiet (fail)
              go_wp2_with fail
              go_roundw
              case rel => exact ⟨m + 1, _, by omega, by go_num, rfl⟩
              case measure => simp [intOf]; omega
            · clear hq25 hq25n hq57 hq30 hq61 hq34 hq35 hq36 hq41
              have k0 : w'.cell? ⟨nb, 0, none⟩ = some (.pointer none) := q3 0 _ rfl
              have k1 : w'.cell? ⟨nb, 1, none⟩ = some (.int .u16 0) := q3 1 _ rfl
              have k2 : w'.cell? ⟨nb, 2, none⟩ = some (.int .u16 0) := q3 2 _ rfl
              have k3 : w'.cell? ⟨nb, 3, none⟩ = some (.bool false) := q3 3 _ rfl
              have k4 : w'.cell? ⟨nb, 4, none⟩ = some (.bool false) := q3 4 _ rfl
              have k5 : w'.cell? ⟨nb, 5, none⟩ = some (.bool false) := q3 5 _ rfl
              have k6 : w'.cell? ⟨nb, 6, none⟩ = some (.bool false) := q3 6 _ rfl
              have k7 : w'.cell? ⟨nb, 7, none⟩ = some (.int .u32 (m : Int)) := q3 7 _ rfl
              have k8 : w'.cell? ⟨nb, 8, none⟩ = some (.int .u32 0) := q3 8 _ rfl
              have k9 : w'.cell? ⟨nb, 9, none⟩ = some (.pointer none) := q3 9 _ rfl
              have k10 : w'.cell? ⟨nb, 10, none⟩ = some (.pointer none) := q3 10 _ rfl
              have k11 : w'.cell? ⟨nb, 11, none⟩ = some (.int .u32 0) := q3 11 _ rfl
              have k12 : w'.cell? ⟨nb, 12, none⟩ = some (.int .u32 0) := q3 12 _ rfl
              clear q3
              go_wp2_with fail
              go_quiet (fail)
              go_wp2_with fail
              go_roundw
              case rel => exact ⟨m + 1, _, by omega, by go_num, rfl⟩
              case measure => simp [intOf]; omega
          · clear hkin
            by_cases hL2 : 2 ≤ L
            · have hd2 : decide ((2 : Int) ≤ (L : Int)) = true := by simp; omega
              obtain rfl : oo = 21 := hoo hL2
              go_wp2_with (go_at_call 5; refine (load_nil _ _ (by simpa using n14)).mono ?_; rintro e w2 ⟨rfl, rfl⟩)
              go_quiet (fail)
              go_wp2_with fail
              go_ret
              exact ⟨rfl, ⟨HBel.out.os, HBel.out.tape, HBel.out.output, HBel.out.size, HBel.out.block⟩⟩
            · obtain rfl : L = 1 := by omega
              go_wp2_with (go_at_call 5; refine (load_nil _ _ (by simpa using n14)).mono ?_; rintro e w2 ⟨rfl, rfl⟩)
              go_quiet (fail)
              go_wp2_with fail
              go_ret
              exact ⟨rfl, ⟨HBel.out.os, HBel.out.tape, HBel.out.output, HBel.out.size, HBel.out.block⟩⟩
      · obtain rfl : k = 0 := by omega
        go_quiet (fail)
        go_wp2_with fail
        go_loopw [151] (fun i wv => ∃ nd : Nat, i = .int .i64 0 ∧ wv = w'.drewN nd) (fun i _ => 0)
        case atStart => exact ⟨_, rfl, rfl⟩
        case round =>
          obtain ⟨nd, rfl, rfl⟩ := hrel
          by_cases hL2 : 2 ≤ L
          · have hd2 : decide ((2 : Int) ≤ (L : Int)) = true := by simp; omega
            obtain rfl : oo = 21 := hoo hL2
            go_wp2_with (go_at_call 5; refine (load_nil _ _ (by simpa using n14)).mono ?_; rintro e w2 ⟨rfl, rfl⟩)
            go_quiet (fail)
            go_wp2_with fail
            go_ret
            exact ⟨rfl, ⟨HBel.out.os, HBel.out.tape, HBel.out.output, HBel.out.size, HBel.out.block⟩⟩
          · obtain rfl : L = 1 := by omega
            go_wp2_with (go_at_call 5; refine (load_nil _ _ (by simpa using n14)).mono ?_; rintro e w2 ⟨rfl, rfl⟩)
            go_quiet (fail)
            go_wp2_with fail
            go_ret
            exact ⟨rfl, ⟨HBel.out.os, HBel.out.tape, HBel.out.output, HBel.out.size, HBel.out.block⟩⟩

end Go.Proofs.Ybulkegbq.lawS6620BWhole

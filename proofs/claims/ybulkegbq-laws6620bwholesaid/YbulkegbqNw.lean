import Derived.Test.YbulkegbqFacts
namespace Go.Proofs.Ybulkegbq.lawS6620BWhole
open Go.RowKit
set_option linter.unusedVariables false

set_option maxRecDepth 100000 in
set_option maxHeartbeats 4000000 in
theorem walk_nil_new (a1 a2 a3 a4 a5 a6 a7 : Int) (a8 : ByteArray)  (B : Nat) (w : World) (h1 : 0 ≤ a1) (h2 : 0 ≤ a2) (h1' : a1 ≤ 65535) (h2' : a2 ≤ 65535) (hL : a1 % 600 = 0) (hB : a2 % 1000 = (B : Int)) (hB3 : B < 1000)  :
    Calls Yba.prog 3 #[.bool true, .int .u16 a1, .int .u16 a2, .int .i64 a3, .int .i64 a4, .int .u16 a5, .int .u32 a6, .int .u32 a7, .string a8, .slice none 0 0] w fun e w' => e = .returned (.bool true) ∧ Below w.heap.size w w' := by
  have hmk : ∀ w : World, (Instr.makeSlice 25 (.int .i64 0) (.int .i64 0)).run Yba.prog w = .ok (.slice (some ⟨w.heap.size, 0, none⟩) 0 0) (w.alloc (.cells (madeCells #[.pointer none] 0) 26)) := fun w => mk25 w 0 (by omega)
  have hmk60 : ∀ w : World, (Instr.makeSlice 40 (.int .i64 0) (.int .i64 0)).run Yba.prog w = .ok (.slice (some ⟨w.heap.size, 0, none⟩) 0 0) (w.alloc (.cells (madeCells zeroBranch.cells (0 * 21)) 60)) := fun w => mk60n w 0 (by omega)
  have hq24 := neqN 24 4 Yba.underlying24
  go_enter Yba.func3, Yba.ntmps3
  have hcp0 := copy_nil w 0
  simp only [World.drewN_zero] at hcp0
  have HB := Below.refl w.heap.size w
  go_wp2_with fail
  refine (new_at w (madeCells #[.pointer none] 0) a8 B a3 a4 hB3 _ _ _ _ _ _ _ rfl).mono ?_
  rintro e w' ⟨rb, rfl, hnb, hkb, ⟨oo, m1⟩, m0, m2, m3, m4, m5⟩
  have ht : TreeAt w' (w.heap.size + 1) a8 := tree_fact (wr := w) (c := (madeCells #[.pointer none] 0)) (fun k hk => by rw [Below.heap_alloc _ _ _ (by simp <;> omega), Below.heap_alloc _ _ _ (by simp <;> omega)]) (by simp) (fun k hk h => by omega) hkb
  have hBel : Below w.heap.size w w' := ((((HB.alloc (by omega) _).alloc (by simp <;> omega) _).alloc (by simp <;> omega) _).alloc (by simp <;> omega) _).trans (hkb.below (by simp <;> omega) (fun k hk h => by omega))
  obtain ⟨n0, n1, n2, n3, n4, n5, n6, n7, n8, n9, n10, n11, n12, n13, n14⟩ := hnb
  obtain ⟨t0, t1, t2, t3, t4, t5, t6⟩ := ht
  have HBel : Hid (Below w.heap.size w w') := hBel
  clear hkb HB hBel hcp0 hmk hmk60
  have hnn := neq_node
  have hq25 := eqlN 25 26 Yba.underlying25
  have hq25n := neqN 25 26 Yba.underlying25
  have hq57 := neq_ptr 57 26 Yba.underlying57 (by kernel_rfl)
  have hq26 := neq_ptr 26 32 Yba.underlying26 (by kernel_rfl)
  have hq30 := neq_ptr 30 56 Yba.underlying30 (by kernel_rfl)
  have hq61 := neq_ptr 61 60 Yba.underlying61 (by kernel_rfl)
  have hq34 := neqN 34 23 Yba.underlying34
  have hq35 := neqN 35 107 Yba.underlying35
  have hq36 := neqN 36 111 Yba.underlying36
  have hq41 := neqN 41 32 Yba.underlying41
  go_wp2_with fail
  go_quiet (fail)
  go_wp2_with fail
  go_quiet (fail)
  go_wp2_with fail
  go_loopw [151] (fun i wv => ∃ nd : Nat, i = .int .i64 0 ∧ wv = w'.drewN nd) (fun i _ => 0)
  case atStart => exact ⟨_, rfl, rfl⟩
  case round =>
    obtain ⟨nd, rfl, rfl⟩ := hrel
    rcases (show (B < 8 ∧ newSize B = 16) ∨ (8 ≤ B ∧ B ≤ 128 ∧ newSize B = 2 * B) ∨ (128 < B ∧ newSize B = 256) by unfold newSize; omega) with ⟨hB1, hB2⟩ | ⟨hB1, hB3, hB2⟩ | ⟨hB1, hB2⟩
    all_goals
      go_wp2_with (go_at_call 5; refine (load_nil _ _ (by simpa using n14)).mono ?_; rintro e w2 ⟨rfl, rfl⟩)
      go_ret
      exact ⟨rfl, ⟨HBel.out.os, HBel.out.tape, HBel.out.output, HBel.out.size, HBel.out.block⟩⟩

end Go.Proofs.Ybulkegbq.lawS6620BWhole

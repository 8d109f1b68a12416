import Derived.Test.YbulkegbqTake
namespace Go.Proofs.Ybulkegbq.lawS6620BWhole
open Go.RowKit
set_option linter.unusedVariables false

theorem run_load_ptr {a : Addr} {w : World} (hc : w.cell? a = some (.pointer none)) :
    (callFunc 8 #[.pointer (some a)]).run Yba.prog w = .ok (.value (.pointer none)) w := by
  rw [run_callFunc_extern (fn := Yba.f8) Yba.func8 (by kernel_rfl) (by kernel_rfl) (by kernel_rfl) (e := Extern.Atomic.loadT .ptr) (by kernel_rfl)]
  change (Sem.run Yba.prog (do Extern.Atomic.read .ptr (← asAddr (.pointer (some a)))) w).andThen _ = _
  simp [Extern.Atomic.read, asAddr, hc, Result.andThen]

theorem conv_nil (w : World) : (convert 49 45 (.pointer none)).run Yba.prog w = .ok (.pointer none) w := by kernel_rfl

set_option maxHeartbeats 400000 in
theorem load_nil (rb : Nat) (w : World) (hc : w.cell? ⟨rb, 14, none⟩ = some (.pointer none)) :
    Calls Yba.prog 5 #[.pointer (some ⟨rb, 14, none⟩)] w fun e w' => e = .returned (.pointer none) ∧ w = w' := by
  have hl := run_load_ptr hc
  have hcv := conv_nil
  go_enter Yba.func5, Yba.ntmps5
  go_wp2
  go_ret
  exact ⟨rfl, rfl⟩
end Go.Proofs.Ybulkegbq.lawS6620BWhole

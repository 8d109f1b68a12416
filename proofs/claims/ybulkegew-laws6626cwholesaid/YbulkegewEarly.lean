import Derived.Test.YbulkegewMid
namespace Go.Proofs.Ybulkegew.S6626C
open Go.RowKit
set_option linter.unusedVariables false

set_option maxRecDepth 100000 in
set_option maxHeartbeats 1000000 in
theorem law_early (a0 : Option Addr) (len cp : Nat) (a1 : Int) (a2 : Option Addr) (N cp2 : Nat) (a3 : Int) (w : World) (h : 1048576 < len ∨ (len ≤ 1048576 ∧ 4096 < N)) :
    Calls Yba.prog 3 #[.slice a0 len cp, .int .u64 a1, .slice a2 N cp2, .int .u8 a3] w fun e w' => e = .returned (.bool true) ∧ Below w.heap.size w w' := by
  rcases h with h | ⟨h0, h⟩
  all_goals
    go_enter Yba.func3, Yba.ntmps3
    go_wp2_with fail
    go_ret
    exact ⟨rfl, Below.refl _ _⟩

end Go.Proofs.Ybulkegew.S6626C

/-
  No cell of these rows narrows 'for every input' (looked for: loops, veiled, ifaces, maps, wideKeys, modest, calm, conditions, laid).
  DERIVED. THE GIVEN ROWS OF THIS SEAT. 2 by the template 'for every input the law returns true; each argument reads behind the call as it read before'; 0 by the template 'total and deterministic' (their statements: YbulkegdgTotals.lean).
  GIVEN WITH THE SEED: the statements are not yours to turn. If you find one false, say at which input.
  Laid BY PROGRAM, IN A SANDBOX (cutbox-rows.mjs): the forced cells as the released guide's own fill.sh prints them over the translation ad045ab91e8be671… (all of the seat's roots in one cut). By AI agents, Wed Nov 11 2026. No macro, syntax, notation, axiom, sorry.
-/
import Derived.Test.YbulkegdgChecked
import GoSem.Claim
import GoSem.ClaimJoined
import GoSem.ClaimMapViews
import Derived.JoinedTies
import Derived.KernelRfl
namespace Go.Proofs.Ybulkegdg
/- THE CELL 'sum', in the pinned program and in every row, IS THE sha256 OF THE DUMP (.gsa) THAT YbulkegdgProg.lean LOADS. Nothing in Lean hashes anything: it is a label: what it is worth is what the hold of that sum in a sandbox is worth. -/
noncomputable def Yba.pinned : Pinned := { name := "ybulkegdg", sum := "ad045ab91e8be6713fcee3cffa652486b254fa05855332c7fdd2ed2a30d13dc1", checked := Yba.checked }
namespace Rows
def none {H : Type} : Left H := { results := [], args := [] }

/-- 'syntax.LawS6623BWhole': WHATEVER THE INPUT: true; the input reads as it did. -/
def lawS6623BWholeSpec : ChangeSpec := { name := "lawS6623BWhole", fn := fun _ => fun
  | [d1, d2, d3, d4, d5, d6] => { results := [.lit (.bool true)], args := [d1, d2, d3, d4, d5, d6] }
  | _ => none }
def lawS6623BWholeRow : OpenClaim := { program := "ybulkegdg", sum := "ad045ab91e8be6713fcee3cffa652486b254fa05855332c7fdd2ed2a30d13dc1", func := "example.com/vcfg/vcfg/syntax.LawS6623BWhole", spec := "lawS6623BWhole", apart := false }
def LawS6623BWholeSaid : Prop := lawS6623BWholeRow.holds Yba.pinned (OpenSpec.ofChange lawS6623BWholeSpec)

/-- ITS FALSE NEIGHBOUR: 'it returns false'. Refute it at one input. -/
def lawS6623BWholeWrong : ChangeSpec := { name := "lawS6623BWhole", fn := fun _ => fun
  | [d1, d2, d3, d4, d5, d6] => { results := [.lit (.bool false)], args := [d1, d2, d3, d4, d5, d6] }
  | _ => none }
def LawS6623BWholeWrongFalsely : Prop := lawS6623BWholeRow.holds Yba.pinned (OpenSpec.ofChange lawS6623BWholeWrong)

/-- 'syntax.LawS6623BRoundTrip': WHATEVER THE INPUT: true; the input reads as it did. -/
def lawS6623BRoundTripSpec : ChangeSpec := { name := "lawS6623BRoundTrip", fn := fun _ => fun
  | [d1, d2, d3, d4, d5] => { results := [.lit (.bool true)], args := [d1, d2, d3, d4, d5] }
  | _ => none }
def lawS6623BRoundTripRow : OpenClaim := { program := "ybulkegdg", sum := "ad045ab91e8be6713fcee3cffa652486b254fa05855332c7fdd2ed2a30d13dc1", func := "example.com/vcfg/vcfg/syntax.LawS6623BRoundTrip", spec := "lawS6623BRoundTrip", apart := false }
def LawS6623BRoundTripSaid : Prop := lawS6623BRoundTripRow.holds Yba.pinned (OpenSpec.ofChange lawS6623BRoundTripSpec)

/-- ITS FALSE NEIGHBOUR: 'it returns false'. Refute it at one input. -/
def lawS6623BRoundTripWrong : ChangeSpec := { name := "lawS6623BRoundTrip", fn := fun _ => fun
  | [d1, d2, d3, d4, d5] => { results := [.lit (.bool false)], args := [d1, d2, d3, d4, d5] }
  | _ => none }
def LawS6623BRoundTripWrongFalsely : Prop := lawS6623BRoundTripRow.holds Yba.pinned (OpenSpec.ofChange lawS6623BRoundTripWrong)

end Rows
end Go.Proofs.Ybulkegdg

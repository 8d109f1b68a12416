/-
  No cell of these rows narrows 'for every input' (looked for: loops, veiled, ifaces, maps, wideKeys, modest, calm, conditions, laid).
  DERIVED. THE GIVEN ROWS OF THIS SEAT. 1 by the template 'for every input the law returns true; each argument reads behind the call as it read before'; 0 by the template 'total and deterministic' (their statements: YbulkegewTotals.lean).
  GIVEN WITH THE SEED: the statements are not yours to turn. If you find one false, say at which input.
  Laid BY PROGRAM, IN A SANDBOX (cutbox-rows.mjs): the forced cells as the released guide's own fill.sh prints them over the translation f2e6a144f1982964… (all of the seat's roots in one cut). By AI agents, Wed Nov 11 2026. No macro, syntax, notation, axiom, sorry.
-/
import Derived.Test.YbulkegewChecked
import GoSem.Claim
import GoSem.ClaimJoined
import GoSem.ClaimMapViews
import Derived.JoinedTies
import Derived.KernelRfl
namespace Go.Proofs.Ybulkegew
/- THE CELL 'sum', in the pinned program and in every row, IS THE sha256 OF THE DUMP (.gsa) THAT YbulkegewProg.lean LOADS. Nothing in Lean hashes anything: it is a label: what it is worth is what the hold of that sum in a sandbox is worth. -/
noncomputable def Yba.pinned : Pinned := { name := "ybulkegew", sum := "f2e6a144f1982964eea5de850c7379044c9b8a07f4c4567d49f18939b31882ee", checked := Yba.checked }
namespace Rows
def none {H : Type} : Left H := { results := [], args := [] }

/-- 'typeladder.LawS6626CWhole': WHATEVER THE INPUT: true; the input reads as it did. -/
def lawS6626CWholeSpec : ChangeSpec := { name := "lawS6626CWhole", fn := fun _ => fun
  | [d1, d2, d3, d4] => { results := [.lit (.bool true)], args := [d1, d2, d3, d4] }
  | _ => none }
def lawS6626CWholeRow : OpenClaim := { program := "ybulkegew", sum := "f2e6a144f1982964eea5de850c7379044c9b8a07f4c4567d49f18939b31882ee", func := "example.com/typeladder/typeladder.LawS6626CWhole", spec := "lawS6626CWhole", apart := false }
def LawS6626CWholeSaid : Prop := lawS6626CWholeRow.holds Yba.pinned (OpenSpec.ofChange lawS6626CWholeSpec)

/-- ITS FALSE NEIGHBOUR: 'it returns false'. Refute it at one input. -/
def lawS6626CWholeWrong : ChangeSpec := { name := "lawS6626CWhole", fn := fun _ => fun
  | [d1, d2, d3, d4] => { results := [.lit (.bool false)], args := [d1, d2, d3, d4] }
  | _ => none }
def LawS6626CWholeWrongFalsely : Prop := lawS6626CWholeRow.holds Yba.pinned (OpenSpec.ofChange lawS6626CWholeWrong)

end Rows
end Go.Proofs.Ybulkegew

/-
  No cell of these rows narrows 'for every input' (looked for: loops, veiled, ifaces, maps, wideKeys, modest, calm, conditions, laid).
  DERIVED. THE GIVEN ROWS OF THIS SEAT. 1 by the template 'for every input the law returns true; each argument reads behind the call as it read before'; 0 by the template 'total and deterministic' (their statements: YbulkegbqTotals.lean).
  GIVEN WITH THE SEED: the statements are not yours to turn. If you find one false, say at which input.
  Laid BY PROGRAM, IN A SANDBOX (cutbox-rows.mjs): the forced cells as the released guide's own fill.sh prints them over the translation 6d37e1b4fed07107… (all of the seat's roots in one cut). By AI agents, Wed Nov 11 2026. No macro, syntax, notation, axiom, sorry.
-/
import Derived.Test.YbulkegbqChecked
import GoSem.Claim
import GoSem.ClaimJoined
import GoSem.ClaimMapViews
import Derived.JoinedTies
import Derived.KernelRfl
namespace Go.Proofs.Ybulkegbq
/- THE CELL 'sum', in the pinned program and in every row, IS THE sha256 OF THE DUMP (.gsa) THAT YbulkegbqProg.lean LOADS. Nothing in Lean hashes anything: it is a label: what it is worth is what the hold of that sum in a sandbox is worth. -/
noncomputable def Yba.pinned : Pinned := { name := "ybulkegbq", sum := "6d37e1b4fed071076336ee7c324307ebc8622ec638712183ef5eaf5fe83f2148", checked := Yba.checked }
namespace Rows
def none {H : Type} : Left H := { results := [], args := [] }

/-- 'arborlex.LawS6620BWhole': WHATEVER THE INPUT: true; the input reads as it did. -/
def lawS6620BWholeSpec : ChangeSpec := { name := "lawS6620BWhole", fn := fun _ => fun
  | [d1, d2, d3, d4, d5, d6, d7, d8, d9, d10] => { results := [.lit (.bool true)], args := [d1, d2, d3, d4, d5, d6, d7, d8, d9, d10] }
  | _ => none }
def lawS6620BWholeRow : OpenClaim := { program := "ybulkegbq", sum := "6d37e1b4fed071076336ee7c324307ebc8622ec638712183ef5eaf5fe83f2148", func := "example.com/arborlex/arborlex.LawS6620BWhole", spec := "lawS6620BWhole", inPlace := ["sync/atomic.LoadPointer"], plainKeys := false, apart := false }
def LawS6620BWholeSaid : Prop := lawS6620BWholeRow.holds Yba.pinned (OpenSpec.ofChange lawS6620BWholeSpec)

/-- ITS FALSE NEIGHBOUR: 'it returns false'. Refute it at one input. -/
def lawS6620BWholeWrong : ChangeSpec := { name := "lawS6620BWhole", fn := fun _ => fun
  | [d1, d2, d3, d4, d5, d6, d7, d8, d9, d10] => { results := [.lit (.bool false)], args := [d1, d2, d3, d4, d5, d6, d7, d8, d9, d10] }
  | _ => none }
def LawS6620BWholeWrongFalsely : Prop := lawS6620BWholeRow.holds Yba.pinned (OpenSpec.ofChange lawS6620BWholeWrong)

end Rows
end Go.Proofs.Ybulkegbq

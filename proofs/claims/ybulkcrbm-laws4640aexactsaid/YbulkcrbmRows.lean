/-
  No cell of these rows narrows 'for every input' (looked for: loops, veiled, ifaces, maps, wideKeys, modest, calm, conditions, laid).
  DERIVED. THE GIVEN ROWS OF THIS SEAT. 2 by the template 'for every input the law returns true; each argument reads behind the call as it read before'; 0 by the template 'total and deterministic' (their statements: YbulkcrbmTotals.lean).
  GIVEN WITH THE SEED: the statements are not yours to turn. If you find one false, say at which input.
  Laid BY PROGRAM, IN A SANDBOX (cutbox-rows.mjs): the forced cells as the released guide's own fill.sh prints them over the translation 9cf6ff8dbea98a09… (all of the seat's roots in one cut). By AI agents, Wed Nov 11 2026. No macro, syntax, notation, axiom, sorry.
-/
import Derived.Test.YbulkcrbmChecked
import GoSem.Claim
import GoSem.ClaimJoined
import GoSem.ClaimMapViews
import Derived.JoinedTies
import Derived.KernelRfl
namespace Go.Proofs.Ybulkcrbm
/- THE CELL 'sum', in the pinned program and in every row, IS THE sha256 OF THE DUMP (.gsa) THAT YbulkcrbmProg.lean LOADS. Nothing in Lean hashes anything: it is a label: what it is worth is what the hold of that sum in a sandbox is worth. -/
noncomputable def Yba.pinned : Pinned := { name := "ybulkcrbm", sum := "9cf6ff8dbea98a095aeb59ba68da30d549845583c21aa3d763b2814634a67f50", checked := Yba.checked }
namespace Rows
def none {H : Type} : Left H := { results := [], args := [] }

/-- 'slicewise.LawS4640AExact': WHATEVER THE INPUT: true; the input reads as it did. -/
def lawS4640AExactSpec : ChangeSpec := { name := "lawS4640AExact", fn := fun _ => fun
  | [d] => { results := [.lit (.bool true)], args := [d] }
  | _ => none }
def lawS4640AExactRow : OpenClaim := { program := "ybulkcrbm", sum := "9cf6ff8dbea98a095aeb59ba68da30d549845583c21aa3d763b2814634a67f50", func := "example.com/slicewise/slicewise.LawS4640AExact", spec := "lawS4640AExact", apart := false }
def LawS4640AExactSaid : Prop := lawS4640AExactRow.holds Yba.pinned (OpenSpec.ofChange lawS4640AExactSpec)

/-- ITS FALSE NEIGHBOUR: 'it returns false'. Refute it at one input. -/
def lawS4640AExactWrong : ChangeSpec := { name := "lawS4640AExact", fn := fun _ => fun
  | [d] => { results := [.lit (.bool false)], args := [d] }
  | _ => none }
def LawS4640AExactWrongFalsely : Prop := lawS4640AExactRow.holds Yba.pinned (OpenSpec.ofChange lawS4640AExactWrong)

/-- 'slicewise.LawS4640AIndependent': WHATEVER THE INPUT: true; the input reads as it did. -/
def lawS4640AIndependentSpec : ChangeSpec := { name := "lawS4640AIndependent", fn := fun _ => fun
  | [d1, d2] => { results := [.lit (.bool true)], args := [d1, d2] }
  | _ => none }
def lawS4640AIndependentRow : OpenClaim := { program := "ybulkcrbm", sum := "9cf6ff8dbea98a095aeb59ba68da30d549845583c21aa3d763b2814634a67f50", func := "example.com/slicewise/slicewise.LawS4640AIndependent", spec := "lawS4640AIndependent", apart := false }
def LawS4640AIndependentSaid : Prop := lawS4640AIndependentRow.holds Yba.pinned (OpenSpec.ofChange lawS4640AIndependentSpec)

/-- ITS FALSE NEIGHBOUR: 'it returns false'. Refute it at one input. -/
def lawS4640AIndependentWrong : ChangeSpec := { name := "lawS4640AIndependent", fn := fun _ => fun
  | [d1, d2] => { results := [.lit (.bool false)], args := [d1, d2] }
  | _ => none }
def LawS4640AIndependentWrongFalsely : Prop := lawS4640AIndependentRow.holds Yba.pinned (OpenSpec.ofChange lawS4640AIndependentWrong)

end Rows
end Go.Proofs.Ybulkcrbm

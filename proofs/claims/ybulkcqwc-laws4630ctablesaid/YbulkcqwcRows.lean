/-
  No cell of these rows narrows 'for every input' (looked for: loops, veiled, ifaces, maps, wideKeys, modest, calm, conditions, laid).
  DERIVED. THE GIVEN ROWS OF THIS SEAT. 2 by the template 'for every input the law returns true; each argument reads behind the call as it read before'; 0 by the template 'total and deterministic' (their statements: YbulkcqwcTotals.lean).
  GIVEN WITH THE SEED: the statements are not yours to turn. If you find one false, say at which input.
  Laid BY PROGRAM, IN A SANDBOX (cutbox-rows.mjs): the forced cells as the released guide's own fill.sh prints them over the translation 5bcaa1f41d21c4f6… (all of the seat's roots in one cut). By AI agents, Wed Nov 11 2026. No macro, syntax, notation, axiom, sorry.
-/
import Derived.Test.YbulkcqwcChecked
import GoSem.Claim
import GoSem.ClaimJoined
import GoSem.ClaimMapViews
import Derived.JoinedTies
import Derived.KernelRfl
namespace Go.Proofs.Ybulkcqwc
/- THE CELL 'sum', in the pinned program and in every row, IS THE sha256 OF THE DUMP (.gsa) THAT YbulkcqwcProg.lean LOADS. Nothing in Lean hashes anything: it is a label: what it is worth is what the hold of that sum in a sandbox is worth. -/
noncomputable def Yba.pinned : Pinned := { name := "ybulkcqwc", sum := "5bcaa1f41d21c4f69d2dd75b9c21e286ce6ce63e9ce8e2623ef22afc9c96edb0", checked := Yba.checked }
namespace Rows
def none {H : Type} : Left H := { results := [], args := [] }

/-- 'stipple.LawS4630CPlain': WHATEVER THE INPUT: true; the input reads as it did. -/
def lawS4630CPlainSpec : ChangeSpec := { name := "lawS4630CPlain", fn := fun _ => fun
  | [d1, d2] => { results := [.lit (.bool true)], args := [d1, d2] }
  | _ => none }
def lawS4630CPlainRow : OpenClaim := { program := "ybulkcqwc", sum := "5bcaa1f41d21c4f69d2dd75b9c21e286ce6ce63e9ce8e2623ef22afc9c96edb0", func := "example.com/stipple/stipple.LawS4630CPlain", spec := "lawS4630CPlain", apart := false }
def LawS4630CPlainSaid : Prop := lawS4630CPlainRow.holds Yba.pinned (OpenSpec.ofChange lawS4630CPlainSpec)

/-- ITS FALSE NEIGHBOUR: 'it returns false'. Refute it at one input. -/
def lawS4630CPlainWrong : ChangeSpec := { name := "lawS4630CPlain", fn := fun _ => fun
  | [d1, d2] => { results := [.lit (.bool false)], args := [d1, d2] }
  | _ => none }
def LawS4630CPlainWrongFalsely : Prop := lawS4630CPlainRow.holds Yba.pinned (OpenSpec.ofChange lawS4630CPlainWrong)

/-- 'stipple.LawS4630CTable': WHATEVER THE INPUT: true; the input reads as it did. -/
def lawS4630CTableSpec : ChangeSpec := { name := "lawS4630CTable", fn := fun _ => fun
  | [d1, d2, d3, d4] => { results := [.lit (.bool true)], args := [d1, d2, d3, d4] }
  | _ => none }
def lawS4630CTableRow : OpenClaim := { program := "ybulkcqwc", sum := "5bcaa1f41d21c4f69d2dd75b9c21e286ce6ce63e9ce8e2623ef22afc9c96edb0", func := "example.com/stipple/stipple.LawS4630CTable", spec := "lawS4630CTable", apart := false }
def LawS4630CTableSaid : Prop := lawS4630CTableRow.holds Yba.pinned (OpenSpec.ofChange lawS4630CTableSpec)

/-- ITS FALSE NEIGHBOUR: 'it returns false'. Refute it at one input. -/
def lawS4630CTableWrong : ChangeSpec := { name := "lawS4630CTable", fn := fun _ => fun
  | [d1, d2, d3, d4] => { results := [.lit (.bool false)], args := [d1, d2, d3, d4] }
  | _ => none }
def LawS4630CTableWrongFalsely : Prop := lawS4630CTableRow.holds Yba.pinned (OpenSpec.ofChange lawS4630CTableWrong)

end Rows
end Go.Proofs.Ybulkcqwc

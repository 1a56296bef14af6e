/-
  No cell of these rows narrows 'for every input' (looked for: loops, veiled, ifaces, maps, wideKeys, modest, calm, conditions, laid).
  DERIVED. THE GIVEN ROWS OF THIS SEAT. 4 by the template 'for every input the law returns true; each argument reads behind the call as it read before'; 0 by the template 'total and deterministic' (their statements: YbulkcqxsTotals.lean).
  GIVEN WITH THE SEED: the statements are not yours to turn. If you find one false, say at which input.
  Laid BY PROGRAM, IN A SANDBOX (cutbox-rows.mjs): the forced cells as the released guide's own fill.sh prints them over the translation 6259a41918e03950… (all of the seat's roots in one cut). By AI agents, Wed Nov 11 2026. No macro, syntax, notation, axiom, sorry.
-/
import Derived.Test.YbulkcqxsChecked
import GoSem.Claim
import GoSem.ClaimJoined
import GoSem.ClaimMapViews
import Derived.JoinedTies
import Derived.KernelRfl
namespace Go.Proofs.Ybulkcqxs
/- THE CELL 'sum', in the pinned program and in every row, IS THE sha256 OF THE DUMP (.gsa) THAT YbulkcqxsProg.lean LOADS. Nothing in Lean hashes anything: it is a label: what it is worth is what the hold of that sum in a sandbox is worth. -/
noncomputable def Yba.pinned : Pinned := { name := "ybulkcqxs", sum := "6259a41918e0395028df1055f933fb74205120f76c350f6feed878617e0ab855", checked := Yba.checked }
namespace Rows
def none {H : Type} : Left H := { results := [], args := [] }

/-- 'mib.LawS4633AExact': WHATEVER THE INPUT: true; the input reads as it did. -/
def lawS4633AExactSpec : ChangeSpec := { name := "lawS4633AExact", fn := fun _ => fun
  | [d] => { results := [.lit (.bool true)], args := [d] }
  | _ => none }
def lawS4633AExactRow : OpenClaim := { program := "ybulkcqxs", sum := "6259a41918e0395028df1055f933fb74205120f76c350f6feed878617e0ab855", func := "example.com/mibwright/mibwright/mib.LawS4633AExact", spec := "lawS4633AExact", apart := false }
def LawS4633AExactSaid : Prop := lawS4633AExactRow.holds Yba.pinned (OpenSpec.ofChange lawS4633AExactSpec)

/-- ITS FALSE NEIGHBOUR: 'it returns false'. Refute it at one input. -/
def lawS4633AExactWrong : ChangeSpec := { name := "lawS4633AExact", fn := fun _ => fun
  | [d] => { results := [.lit (.bool false)], args := [d] }
  | _ => none }
def LawS4633AExactWrongFalsely : Prop := lawS4633AExactRow.holds Yba.pinned (OpenSpec.ofChange lawS4633AExactWrong)

/-- 'mib.LawS4633ADisjoint': WHATEVER THE INPUT: true; the input reads as it did. -/
def lawS4633ADisjointSpec : ChangeSpec := { name := "lawS4633ADisjoint", fn := fun _ => fun
  | [d] => { results := [.lit (.bool true)], args := [d] }
  | _ => none }
def lawS4633ADisjointRow : OpenClaim := { program := "ybulkcqxs", sum := "6259a41918e0395028df1055f933fb74205120f76c350f6feed878617e0ab855", func := "example.com/mibwright/mibwright/mib.LawS4633ADisjoint", spec := "lawS4633ADisjoint", apart := false }
def LawS4633ADisjointSaid : Prop := lawS4633ADisjointRow.holds Yba.pinned (OpenSpec.ofChange lawS4633ADisjointSpec)

/-- ITS FALSE NEIGHBOUR: 'it returns false'. Refute it at one input. -/
def lawS4633ADisjointWrong : ChangeSpec := { name := "lawS4633ADisjoint", fn := fun _ => fun
  | [d] => { results := [.lit (.bool false)], args := [d] }
  | _ => none }
def LawS4633ADisjointWrongFalsely : Prop := lawS4633ADisjointRow.holds Yba.pinned (OpenSpec.ofChange lawS4633ADisjointWrong)

/-- 'mib.LawS4633BExact': WHATEVER THE INPUT: true; the input reads as it did. -/
def lawS4633BExactSpec : ChangeSpec := { name := "lawS4633BExact", fn := fun _ => fun
  | [d1, d2, d3, d4, d5] => { results := [.lit (.bool true)], args := [d1, d2, d3, d4, d5] }
  | _ => none }
def lawS4633BExactRow : OpenClaim := { program := "ybulkcqxs", sum := "6259a41918e0395028df1055f933fb74205120f76c350f6feed878617e0ab855", func := "example.com/mibwright/mibwright/mib.LawS4633BExact", spec := "lawS4633BExact", apart := false }
def LawS4633BExactSaid : Prop := lawS4633BExactRow.holds Yba.pinned (OpenSpec.ofChange lawS4633BExactSpec)

/-- ITS FALSE NEIGHBOUR: 'it returns false'. Refute it at one input. -/
def lawS4633BExactWrong : ChangeSpec := { name := "lawS4633BExact", fn := fun _ => fun
  | [d1, d2, d3, d4, d5] => { results := [.lit (.bool false)], args := [d1, d2, d3, d4, d5] }
  | _ => none }
def LawS4633BExactWrongFalsely : Prop := lawS4633BExactRow.holds Yba.pinned (OpenSpec.ofChange lawS4633BExactWrong)

/-- 'mib.LawS4633BText': WHATEVER THE INPUT: true; the input reads as it did. -/
def lawS4633BTextSpec : ChangeSpec := { name := "lawS4633BText", fn := fun _ => fun
  | [d1, d2] => { results := [.lit (.bool true)], args := [d1, d2] }
  | _ => none }
def lawS4633BTextRow : OpenClaim := { program := "ybulkcqxs", sum := "6259a41918e0395028df1055f933fb74205120f76c350f6feed878617e0ab855", func := "example.com/mibwright/mibwright/mib.LawS4633BText", spec := "lawS4633BText", apart := false }
def LawS4633BTextSaid : Prop := lawS4633BTextRow.holds Yba.pinned (OpenSpec.ofChange lawS4633BTextSpec)

/-- ITS FALSE NEIGHBOUR: 'it returns false'. Refute it at one input. -/
def lawS4633BTextWrong : ChangeSpec := { name := "lawS4633BText", fn := fun _ => fun
  | [d1, d2] => { results := [.lit (.bool false)], args := [d1, d2] }
  | _ => none }
def LawS4633BTextWrongFalsely : Prop := lawS4633BTextRow.holds Yba.pinned (OpenSpec.ofChange lawS4633BTextWrong)

end Rows
end Go.Proofs.Ybulkcqxs

/-
  DERIVED. GIVEN WITH THE SEED: THE CARDS: each row of YbulkcqwcFmtRows.lean that lists a variable, with what it lists TIED to the program's text (the seventh form; the later family's looks); each row that meets fmt, with fmt's text TOLD by the authors' own Lean function (tested against real Go, not proved from fmt's source: count such statements apart). THE CARD IS WHAT COUNTS. Prove the row's statement (the work); the ties are given (YbulkcqwcFmtTie.lean); close each card by the builder's one call (the guide's Derived/Test/ToyasCard.lean, 'card_holds'). Laid BY PROGRAM, IN A SANDBOX (cutbox-door.mjs). By AI agents, Wed Nov 11 2026. No macro, syntax, notation, axiom, sorry.
-/
import Derived.Test.YbulkcqwcFmtRows
import GoSem.ClaimSeven
namespace Go.Proofs.YbulkcqwcFmt
namespace Rows

/-- THE TOLD AND TIED CARD OF 'stipple.LawS4630ARoundTrip'. -/
def lawS4630ARoundTripCard : Claim7 := { stood := { row := lawS4630ARoundTripRow, standIns := [], harness := (true, "687cbbde2900601b4e9cf1c15db801acc802d4fe56b0591acd4a42cad97d2f11"), looks := false }, told := true, laidByText := true, laidKinds := [.data], laidTests := true, laidLooks := .later, goes := false }
def LawS4630ARoundTripToldSaid : Prop := Claim7.holds Ybaf.pinned (.plain (OpenSpec.ofChange lawS4630ARoundTripSpec)) lawS4630ARoundTripCard
/-- ITS FALSE NEIGHBOUR. Refute it at one input. -/
def LawS4630ARoundTripToldWrongFalsely : Prop := Claim7.holds Ybaf.pinned (.plain (OpenSpec.ofChange lawS4630ARoundTripWrong)) lawS4630ARoundTripCard

/-- THE TOLD AND TIED CARD OF 'stipple.LawS4630AOtherForm'. -/
def lawS4630AOtherFormCard : Claim7 := { stood := { row := lawS4630AOtherFormRow, standIns := [], harness := (true, "687cbbde2900601b4e9cf1c15db801acc802d4fe56b0591acd4a42cad97d2f11"), looks := false }, told := true, laidByText := true, laidKinds := [.data], laidTests := true, laidLooks := .later, goes := false }
def LawS4630AOtherFormToldSaid : Prop := Claim7.holds Ybaf.pinned (.plain (OpenSpec.ofChange lawS4630AOtherFormSpec)) lawS4630AOtherFormCard
/-- ITS FALSE NEIGHBOUR. Refute it at one input. -/
def LawS4630AOtherFormToldWrongFalsely : Prop := Claim7.holds Ybaf.pinned (.plain (OpenSpec.ofChange lawS4630AOtherFormWrong)) lawS4630AOtherFormCard
end Rows
end Go.Proofs.YbulkcqwcFmt

/-
  No cell of these rows narrows 'for every input' (looked for: loops, veiled, ifaces, maps, wideKeys, modest, calm, conditions, laid).
  DERIVED. THE GIVEN ROWS OF THIS SEAT. 2 by the template 'for every input the law returns true; each argument reads behind the call as it read before'; 0 by the template 'total and deterministic' (their statements: YbulkcqziTotals.lean).
  GIVEN WITH THE SEED: the statements are not yours to turn. If you find one false, say at which input.
  Laid BY PROGRAM, IN A SANDBOX (cutbox-rows.mjs): the forced cells as the released guide's own fill.sh prints them over the translation 365aff542c336163… (all of the seat's roots in one cut). By AI agents, Wed Nov 11 2026. No macro, syntax, notation, axiom, sorry.
-/
import Derived.Test.YbulkcqziChecked
import GoSem.Claim
import GoSem.ClaimJoined
import GoSem.ClaimMapViews
import Derived.JoinedTies
import Derived.KernelRfl
namespace Go.Proofs.Ybulkcqzi
/- THE CELL 'sum', in the pinned program and in every row, IS THE sha256 OF THE DUMP (.gsa) THAT YbulkcqziProg.lean LOADS. Nothing in Lean hashes anything: it is a label: what it is worth is what the hold of that sum in a sandbox is worth. -/
noncomputable def Yba.pinned : Pinned := { name := "ybulkcqzi", sum := "365aff542c336163879bf09d891a6e0959568df47747bfb12509bfc723dae69d", checked := Yba.checked }
namespace Rows
def none {H : Type} : Left H := { results := [], args := [] }

/-- 'light-threads.LawS4636AConcat': WHATEVER THE INPUT: true; the input reads as it did. -/
def lawS4636AConcatSpec : ChangeSpec := { name := "lawS4636AConcat", fn := fun _ => fun
  | [d1, d2] => { results := [.lit (.bool true)], args := [d1, d2] }
  | _ => none }
def lawS4636AConcatRow : OpenClaim := { program := "ybulkcqzi", sum := "365aff542c336163879bf09d891a6e0959568df47747bfb12509bfc723dae69d", func := "example.com/light-threads/light-threads.LawS4636AConcat", spec := "lawS4636AConcat", apart := false }
def LawS4636AConcatSaid : Prop := lawS4636AConcatRow.holds Yba.pinned (OpenSpec.ofChange lawS4636AConcatSpec)

/-- ITS FALSE NEIGHBOUR: 'it returns false'. Refute it at one input. -/
def lawS4636AConcatWrong : ChangeSpec := { name := "lawS4636AConcat", fn := fun _ => fun
  | [d1, d2] => { results := [.lit (.bool false)], args := [d1, d2] }
  | _ => none }
def LawS4636AConcatWrongFalsely : Prop := lawS4636AConcatRow.holds Yba.pinned (OpenSpec.ofChange lawS4636AConcatWrong)

/-- 'light-threads.LawS4636CJoinsAndForgets': WHATEVER THE INPUT: true; the input reads as it did. -/
def lawS4636CJoinsAndForgetsSpec : ChangeSpec := { name := "lawS4636CJoinsAndForgets", fn := fun _ => fun
  | [d] => { results := [.lit (.bool true)], args := [d] }
  | _ => none }
def lawS4636CJoinsAndForgetsRow : OpenClaim := { program := "ybulkcqzi", sum := "365aff542c336163879bf09d891a6e0959568df47747bfb12509bfc723dae69d", func := "example.com/light-threads/light-threads.LawS4636CJoinsAndForgets", spec := "lawS4636CJoinsAndForgets", inPlace := ["(*internal/sync.Mutex).Lock", "internal/race.Disable", "sync/atomic.CompareAndSwapInt32", "internal/race.Enable", "internal/race.Acquire", "(*internal/sync.Mutex).lockSlow", "internal/sync.runtime_canSpin", "internal/sync.runtime_doSpin", "internal/sync.throw", "internal/sync.runtime_nanotime", "internal/sync.runtime_SemacquireMutex", "sync/atomic.AddInt32", "(*internal/sync.Mutex).Unlock", "internal/race.ReleaseMerge", "(*internal/sync.Mutex).unlockSlow", "internal/sync.fatal", "internal/sync.runtime_Semrelease", "(*internal/sync.Mutex).TryLock"], unfollowed := true, recurses := true, apart := false }
def LawS4636CJoinsAndForgetsSaid : Prop := lawS4636CJoinsAndForgetsRow.holds Yba.pinned (OpenSpec.ofChange lawS4636CJoinsAndForgetsSpec)

/-- ITS FALSE NEIGHBOUR: 'it returns false'. Refute it at one input. -/
def lawS4636CJoinsAndForgetsWrong : ChangeSpec := { name := "lawS4636CJoinsAndForgets", fn := fun _ => fun
  | [d] => { results := [.lit (.bool false)], args := [d] }
  | _ => none }
def LawS4636CJoinsAndForgetsWrongFalsely : Prop := lawS4636CJoinsAndForgetsRow.holds Yba.pinned (OpenSpec.ofChange lawS4636CJoinsAndForgetsWrong)

end Rows
end Go.Proofs.Ybulkcqzi

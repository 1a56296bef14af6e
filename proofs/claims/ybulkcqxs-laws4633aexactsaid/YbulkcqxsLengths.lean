/-
  The contract of (Type).lengths.
-/
import Derived.Test.YbulkcqxsRows
import Derived.WalkKit
import Derived.WalkSpells
import Derived.Outline
import Derived.Laws.ResultCell
namespace Go.Proofs.Ybulkcqxs
open Go Go.RowKit
set_option linter.unusedVariables false

def full : Value := .agg #[.bool false, .int .u64 0, .bool false, .int .u64 65535]
def zero : Value := .agg #[.bool false, .int .u64 0, .bool false, .int .u64 0]
theorem eqFull (w : World) : (binOp .eql 27 (.agg #[.bool false, .int .u64 0, .bool false, .int .u64 65535]) (.agg #[.bool false, .int .u64 0, .bool false, .int .u64 65535])).run Yba.prog w = .ok (.bool true) w := by kernel_rfl
theorem eqZero (w : World) : (binOp .eql 27 (.agg #[.bool false, .int .u64 0, .bool false, .int .u64 0]) (.agg #[.bool false, .int .u64 0, .bool false, .int .u64 0])).run Yba.prog w = .ok (.bool true) w := by kernel_rfl

theorem lengths_yes (t : Int) (h : t = 2 ∨ t = 10) (w : World) :
    Calls Yba.prog 7 #[.int .u8 t] w fun e w' => e = .returned (.tuple #[.agg #[.bool false, .int .u64 0, .bool false, .int .u64 65535], .bool true]) ∧ w' = w.alloc (.cells #[.bool false, .int .u64 0, .bool false, .int .u64 65535] 27) := by
  rcases h with rfl | rfl
  · go_enter Yba.func7, Yba.ntmps7
    go_wp2
    exact bodyPost_ret (v := .tuple #[.agg #[.bool false, .int .u64 0, .bool false, .int .u64 65535], .bool true]) (by simp [results, Yba.results7, go_sem]) rfl ⟨rfl, rfl⟩
  · go_enter Yba.func7, Yba.ntmps7
    go_wp2
    exact bodyPost_ret (v := .tuple #[.agg #[.bool false, .int .u64 0, .bool false, .int .u64 65535], .bool true]) (by simp [results, Yba.results7, go_sem]) rfl ⟨rfl, rfl⟩

theorem lengths_no (t : Int) (h2 : (t == 2) = false) (h10 : (t == 10) = false) (w : World) :
    Calls Yba.prog 7 #[.int .u8 t] w fun e w' => e = .returned (.tuple #[.agg #[.bool false, .int .u64 0, .bool false, .int .u64 0], .bool false]) ∧ w' = w.alloc (.cells #[.bool false, .int .u64 0, .bool false, .int .u64 0] 27) := by
  go_enter Yba.func7, Yba.ntmps7
  go_wp2
  exact bodyPost_ret (v := .tuple #[.agg #[.bool false, .int .u64 0, .bool false, .int .u64 0], .bool false]) (by simp [results, Yba.results7, go_sem]) rfl ⟨rfl, rfl⟩
end Go.Proofs.Ybulkcqxs

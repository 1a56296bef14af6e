/-
  The contract of ClockEntry.bitmapBytes.
-/
import Derived.Test.YbulkcqwcFmtList
namespace Go.Proofs.YbulkcqwcFmt
open Go Go.RowKit
set_option linter.unusedVariables false

theorem bb_num (L U r : Nat) (hl : L < 4611686018427387904) (hUL : U + 2 ≤ L) (hr : r = (L - U - 2) / 8 + 1) :
    IntKind.u64.wrap (IntKind.u64.wrap ((IntKind.u64.wrap (IntKind.u64.wrap ((L : Int) - (U : Int)) - 2)).tdiv 8) + 1) = (r : Int) := by
  have e1 : IntKind.u64.wrap (IntKind.u64.wrap ((L : Int) - (U : Int)) - 2) = ((L - U - 2 : Nat) : Int) := by
    rw [IntKind.wrap_u64, IntKind.wrap_u64]; omega
  rw [e1, Int.tdiv_eq_ediv_of_nonneg (by omega), IntKind.wrap_u64, IntKind.wrap_u64]
  omega

set_option maxHeartbeats 1000000 in
set_option maxRecDepth 100000 in
theorem bitmapBytes_ls {w w0 : World} {f : Value} {i q : Nat} {ws : List Word} {cs : List Nat} (h : LsAt w0 f i q ws) (hg : Good ws cs) (U L r : Nat) (hf : ∃ a n c, f = .slice a n c) (hL : cs.getLast?.getD U = L) (hU : U < 8589934592) (hl : L < 4611686018427387904)
    (hr : (L = U ∧ r = 0) ∨ (U + 2 ≤ L ∧ r = (L - U - 2) / 8 + 1)) :
    Calls Ybaf.prog 14 #[.agg #[.int .u64 U, f, .int .u64 i, .int .u64 q]] w fun e w' => e = .returned (.int .u64 r) ∧ Below w.heap.size w w' := by
  obtain ⟨a, n, c, rfl⟩ := hf
  rcases hr with ⟨hLU, rfl⟩ | ⟨hUL, hr⟩
  · go_enter Ybaf.func14, Ybaf.ntmps14
    go_wp2_with fail
    go_region_with (go_at_call 27; refine (last_ls h hg w.heap.size U (by simp) (by simp) (by simp) (by simp)).mono ?_; rintro e w1 ⟨rfl, hb1⟩; rw [hL, hLU]; have z0 : w1.cell? ⟨w.heap.size, 0, none⟩ = some (.int .u64 (U : Nat)) := (hb1.cell (p := ⟨w.heap.size, 0, none⟩) (by simp)).trans (by simp))
    all_goals
      go_wp2
      go_ret
      exact ⟨rfl, (((Below.refl _ w).alloc (Nat.le_refl _) _).drew).trans (hb1.mono (by simp))⟩
  · have hne : ((L : Int) == (U : Int)) = false := by simp; omega
    go_enter Ybaf.func14, Ybaf.ntmps14
    go_wp2_with fail
    go_region_with (go_at_call 27; refine (last_ls h hg w.heap.size U (by simp) (by simp) (by simp) (by simp)).mono ?_; rintro e w1 ⟨rfl, hb1⟩; rw [hL]; have z0 : w1.cell? ⟨w.heap.size, 0, none⟩ = some (.int .u64 (U : Nat)) := (hb1.cell (p := ⟨w.heap.size, 0, none⟩) (by simp)).trans (by simp); have z2 : w1.cell? ⟨w.heap.size, 2, none⟩ = some (.int .u64 (i : Nat)) := (hb1.cell (p := ⟨w.heap.size, 2, none⟩) (by simp)).trans (by simp); have z3 : w1.cell? ⟨w.heap.size, 3, none⟩ = some (.int .u64 (q : Nat)) := (hb1.cell (p := ⟨w.heap.size, 3, none⟩) (by simp)).trans (by simp); have hs1 : w.heap.size < w1.heap.size := Nat.lt_of_lt_of_le (by simp) hb1.size)
    all_goals
      go_wp2_with fail
      go_region_with (go_at_call 27; refine (last_ls h hg w.heap.size U (by simpa using hs1) (by simpa using z0) (by simpa using z2) (by simpa using z3)).mono ?_; rintro e w2 ⟨rfl, hb2⟩; rw [hL]; have y0 : w2.cell? ⟨w.heap.size, 0, none⟩ = some (.int .u64 (U : Nat)) := (hb2.cell (p := ⟨w.heap.size, 0, none⟩) (by simpa using hs1)).trans (by simpa using z0))
      all_goals
        go_wp2
        go_ret
        refine ⟨congrArg Ending.returned (congrArg (Value.int IntKind.u64) (bb_num L U r hl hUL hr)), ?_⟩
        exact (((((Below.refl _ w).alloc (Nat.le_refl _) _).drew).trans (hb1.mono (by simp))).drew).trans (hb2.mono (by simp; omega))
end Go.Proofs.YbulkcqwcFmt

/-
  The contracts of listOf, normalised.
-/
import Derived.Test.YbulkcqwcFmtWords
namespace Go.Proofs.YbulkcqwcFmt
open Go Go.RowKit
set_option linter.unusedVariables false

set_option maxHeartbeats 300000 in
theorem listOf_nil (a : Option Addr) (c : Nat) (w : World) :
    Calls Ybaf.prog 30 #[.slice a 0 c] w fun e w' => e = .returned (.agg #[.slice none 0 0, .int .u64 0, .int .u64 0]) ∧ Below w.heap.size w w' := by
  go_enter Ybaf.func30, Ybaf.ntmps30
  go_wp2
  refine bodyPost_ret (v := .agg #[.slice none 0 0, .int .u64 0, .int .u64 0]) (by simp [results, Ybaf.results30, go_sem]) rfl ⟨rfl, ?_⟩
  exact (Below.refl _ w).alloc (Nat.le_refl _) _

set_option maxHeartbeats 300000 in
theorem listOf_some (g m cap i q : Nat) (w : World) (hm : m ≤ 1048576) (hc : m + 1 ≤ cap) (hcm : cap ≤ maxLen) (hgw : g < w.heap.size)
    (c0 : w.cell? ⟨g, m * 2, none⟩ = some (.int .u64 i)) (c1 : w.cell? ⟨g, m * 2 + 1, none⟩ = some (.int .u64 q)) :
    Calls Ybaf.prog 30 #[.slice (some ⟨g, 0, none⟩) (m + 1 : Nat) cap] w fun e w' => e = .returned (.agg #[.slice (some ⟨g, 0, none⟩) m cap, .int .u64 i, .int .u64 q]) ∧ Below w.heap.size w w' := by
  go_enter Ybaf.func30, Ybaf.ntmps30
  go_wp2
  go_region
  go_wp2
  refine bodyPost_ret (v := .agg #[.slice (some ⟨g, 0, none⟩) m cap, .int .u64 i, .int .u64 q]) (by simp [results, Ybaf.results30, go_sem]) rfl ⟨rfl, ?_⟩
  exact ((Below.refl _ w).alloc (Nat.le_refl _) _).drew

theorem below_same (w : World) (g j : Nat) (cur : Array Value) (e : TypeId) (u : Value) (hg : w.heap[g]? = some (.cells cur e (0, 0))) (hj : cur[j]? = some u) : Below w.heap.size w (w.setCell ⟨g, j, none⟩ u) := by
  refine ⟨rfl, rfl, rfl, by simp [World.setCell], fun k hk => ?_⟩
  by_cases h : k = g
  · subst h
    rw [heap_setCell_same w k j cur e u hg, hg]
    congr 2
    refine Array.ext (by simp) fun i h1 h2 => ?_
    rw [Array.getElem_setIfInBounds (by simpa using h2)]
    split
    · next e => subst e; rw [Array.getElem?_eq_getElem (by simpa using h2)] at hj; exact (Option.some.inj hj).symm
    · rfl
  · exact Below.heap_setCell _ _ _ _ h

theorem size40 : (Ybaf.prog.info? 40).map (·.size) = some 4 := by kernel_rfl
theorem set4 {w1 : World} {g : Nat} {a b c d : Value} (h : w1.heap[g]? = some (.cells #[a, b, c, d] 40 (0, 0))) (a' b' c' d' : Value) :
    ((((w1.setCell ⟨g, 0, none⟩ a').setCell ⟨g, 1, none⟩ b').setCell ⟨g, 2, none⟩ c').setCell ⟨g, 3, none⟩ d').heap[g]? = some (.cells #[a', b', c', d'] 40 (0, 0)) :=
  heap_setCell_same _ g 3 _ 40 d' (heap_setCell_same _ g 2 _ 40 c' (heap_setCell_same _ g 1 _ 40 b' (heap_setCell_same _ g 0 _ 40 a' h)))

theorem below4 {B g : Nat} {w w1 : World} (h : Below B w w1) (hg : B ≤ g) (a b c d : Value) :
    Below B w ((((w1.setCell ⟨g, 0, none⟩ a).setCell ⟨g, 1, none⟩ b).setCell ⟨g, 2, none⟩ c).setCell ⟨g, 3, none⟩ d) :=
  Below.setCell (p := ⟨g, 3, none⟩) (Below.setCell (p := ⟨g, 2, none⟩) (Below.setCell (p := ⟨g, 1, none⟩) (Below.setCell (p := ⟨g, 0, none⟩) h hg a) hg b) hg c) hg d

theorem res40 {W w1 : World} (g : Nat) (hg : g < W.heap.size) (hb : Below W.heap.size W w1) (h : W.heap[g]? = some (.cells #[.int .u64 0, .slice none 0 0, .int .u64 0, .int .u64 0] 40 (0, 0))) :
    w1.cell? ⟨g, 0, none⟩ = some (.int .u64 0) ∧ w1.cell? ⟨g, 1, none⟩ = some (.slice none 0 0) ∧ w1.cell? ⟨g, 2, none⟩ = some (.int .u64 0) ∧ w1.cell? ⟨g, 3, none⟩ = some (.int .u64 0) ∧
    w1.frozen? ⟨g, 0, none⟩ = false ∧ w1.frozen? ⟨g, 1, none⟩ = false ∧ w1.frozen? ⟨g, 2, none⟩ = false ∧ w1.frozen? ⟨g, 3, none⟩ = false ∧ Hid (w1.heap[g]? = some (.cells #[.int .u64 0, .slice none 0 0, .int .u64 0, .int .u64 0] 40 (0, 0))) := by
  have h1 := (hb.block g hg).trans h
  have fr := fun j => frozen_of_row w1 g j _ _ h1
  have ce := fun j => cell_of_row w1 g j _ _ _ h1
  exact ⟨ce 0, ce 1, ce 2, ce 3, fr 0, fr 1, fr 2, fr 3, h1⟩

set_option maxHeartbeats 300000 in
set_option maxRecDepth 100000 in
theorem normalised_nil (U : Nat) (hU : U < 8589934592) (a : Option Addr) (c : Nat) (w : World) :
    Calls Ybaf.prog 20 #[.int .u64 U, .slice a 0 c] w fun e w' => e = .returned (.agg #[.int .u64 U, .slice none 0 0, .int .u64 0, .int .u64 0]) ∧ Below w.heap.size w w' := by
  go_enter Ybaf.func20, Ybaf.ntmps20
  go_wp2
  go_loopw [0, 1] (fun v0 v1 wr => v0 = .int .u64 U ∧ v1 = .slice a 0 c ∧ wr = w.alloc (.cells #[.int .u64 0, .slice none 0 0, .int .u64 0, .int .u64 0] 40)) (fun _ _ _ => 0)
  case atStart => exact ⟨rfl, rfl, rfl⟩
  case round =>
    obtain ⟨rfl, rfl, rfl⟩ := hrel
    go_wp2_with (go_at_call 30; refine (listOf_nil _ _ _).mono ?_; rintro e w1 ⟨rfl, hb1⟩; obtain ⟨z0, z1, z2, z3, y0, y1, y2, y3, X⟩ := res40 w.heap.size (by simp) hb1 (heap_alloc_new _ _))
    refine bodyPost_ret (v := .agg #[.int .u64 U, .slice none 0 0, .int .u64 0, .int .u64 0]) (results_cell_row rfl _ _ w.heap.size 40 _ _ _ (by rfl) (set4 X.out _ _ _ _) Ybaf.underlying40 (by rfl) size40) rfl ⟨rfl, ?_⟩
    exact below4 (((Below.refl _ w).alloc (Nat.le_refl _) _).trans (hb1.mono (by simp))) (Nat.le_refl _) _ _ _ _

end Go.Proofs.YbulkcqwcFmt

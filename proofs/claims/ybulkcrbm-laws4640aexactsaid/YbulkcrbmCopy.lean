/-
  copy of a whole slice into a row of the call's own; the contract of (nodeSet).clone.
-/
import Derived.Test.YbulkcrbmRows
import Derived.WalkKit
import Derived.WalkSpells
import Derived.OpenShut
import Derived.Laws.CopyRow
import Derived.Laws.IdiomCopy
import Derived.Outline
namespace Go.Proofs.Ybulkcrbm
open Go Go.RowKit
set_option linter.unusedVariables false

theorem Yba.info25 : (Yba.prog.info? 25).map (fun i => (i.zero, i.size, i.bytes)) = some (some (.int .u64 0), 1, 8) := by kernel_rfl
theorem Yba.size25 : (Yba.prog.info? 25).map (·.size) = some 1 := by kernel_rfl

/-- Where a slice's elements lie: nil and empty, or the cells cs behind its address. -/
def Src (w : World) (a : Option Addr) (n : Nat) (cs : List Value) : Prop :=
  cs.length = n ∧ (a = none → n = 0) ∧ ∀ x, a = some x → ∀ j v, cs[j]? = some v → w.cell? (x.add j) = some v

theorem Src.below {w w' : World} {a : Option Addr} {n : Nat} {cs : List Value} (h : Src w a n cs) (hb : Below w.heap.size w w') : Src w' a n cs :=
  ⟨h.1, h.2.1, fun x hx j v hv => (hb.cell (World.block_lt_of_cell? w _ (h.2.2 x hx j v hv))).trans (h.2.2 x hx j v hv)⟩

/-- copy(dst, src), dst a row of n cells, src of n elements: the row then holds src's cells. -/
theorem copy_full (w : World) (g n cap : Nat) (dT : TypeId) (hu : Yba.prog.underlying dT = some (.slice 25)) (cur : Array Value) (hg : w.heap[g]? = some (.cells cur 25 (0, 0))) (hcur : cur.size = n)
    (a : Option Addr) (cs : List Value) (hs : Src w a n cs) (h1 : ∀ v ∈ cs, v.oneCell' = true) :
    ∃ w', (∀ ty, (Builtin.copy_ #[dT, dT] ty #[.slice (some ⟨g, 0, none⟩) n n, .slice a n cap]).run Yba.prog w = .ok (goInt n) w') ∧ w'.heap[g]? = some (.cells cs.toArray 25 (0, 0)) ∧
      w.grownBy w' (some g) ∧ w'.heap.size = w.heap.size := by
  obtain ⟨hl, hnil, hc⟩ := hs
  by_cases h0 : n = 0
  · subst h0
    have e1 : cs = [] := List.eq_nil_of_length_eq_zero hl
    have e2 : cur = #[] := Array.eq_empty_of_size_eq_zero hcur
    subst e1 e2
    exact ⟨w, fun ty => run_copy_none w dT dT ty 25 _ _ 0 0 0 cap hu Yba.size25 (by simp), hg, World.grownBy.refl _ _, rfl⟩
  · cases a with
    | none => exact absurd (hnil rfl) h0
    | some x =>
      refine ⟨_, fun ty => ?_, setRow_heap w g cur _ 25 _ hg, ⟨rfl, rfl, rfl, by simp, fun k _ hk => setRow_other w g k _ (fun e => hk (by simp [e]))⟩, by simp [World.setRow]⟩
      have := run_copy_row (P := Yba.prog) w dT dT ty 25 g 0 n n x n cap cur 25 cs hu Yba.size25 hg (by rw [hl]; exact (Nat.min_self n).symm) (hc x rfl) (by omega) h1
      rw [this, hl]
      congr 2
      simp
      omega

/-- A row of n cells of the call's own. -/
theorem row_of_owns {w : World} {g n : Nat} {xs : List Value} (h : w.ownsRow g 25 1 (.slice (some ⟨g, 0, none⟩) n n) n xs) : ∃ cur, w.heap[g]? = some (.cells cur 25 (0, 0)) ∧ cur.size = n := by
  rcases h.2 with ⟨e, _⟩ | ⟨g', cap, cur, e, _, hg, _, _, hs, _⟩
  · simp at e
  · simp at e
    obtain ⟨rfl, rfl⟩ := e
    exact ⟨cur, hg, by omega⟩

theorem row_src {w : World} {g n : Nat} {cs : List Value} (hg : w.heap[g]? = some (.cells cs.toArray 25 (0, 0))) (hl : cs.length = n) : Src w (some ⟨g, 0, none⟩) n cs := by
  refine ⟨hl, fun h => (by cases h), fun x hx j v hv => ?_⟩
  obtain rfl : _ = x := Option.some.inj hx
  rw [Addr.add_lit, Nat.zero_add]
  simp [World.cell?, hg, hv]

set_option maxHeartbeats 1000000 in
theorem clone_any (g n : Nat) (cs : List Value) (w : World) (hn : n ≤ 1024) (hg : w.heap[g]? = some (.cells cs.toArray 25 (0, 0))) (hl : cs.length = n) (h1 : ∀ v ∈ cs, v.oneCell' = true) :
    Calls Yba.prog 5 #[.slice (some ⟨g, 0, none⟩) n n] w fun e w' => e = .returned (.slice (some ⟨w.heap.size, 0, none⟩) n n) ∧ w'.heap[w.heap.size]? = some (.cells cs.toArray 25 (0, 0)) ∧ Below w.heap.size w w' := by
  obtain ⟨i0, hi, hz0, hz1, hz2⟩ := info_parts Yba.info25
  have HG : Hid (w.heap[g]? = some (.cells cs.toArray 25 (0, 0))) := hg
  have HL : Hid (cs.length = n) := hl
  clear hg hl
  go_enter Yba.func5, Yba.ntmps5
  go_wp2_with (at_make; refine wpList_make_full _ rfl _ _ 23 rfl w.heap.size 25 i0 (.int .u64 0) 1 Yba.underlying23 hi hz0 hz1 _ _ _ _ n rfl rfl (by omega) (by omega) ?b2 ?b3 ?b4 ?_)
  case b2 => rw [hz2]; omega
  case b3 => unfold maxLen; omega
  case b4 => exact Nat.le_refl _
  intro wm hown hgrow
  have hb0 : Below w.heap.size w wm := (Below.refl _ _).grown hgrow (Nat.le_refl _) (fun k hk => by cases hk)
  obtain ⟨cur, hcur, hsz⟩ := row_of_owns hown
  obtain ⟨w', hrun, hrow, hg', _⟩ := copy_full wm w.heap.size n n 23 Yba.underlying23 cur hcur hsz (some ⟨g, 0, none⟩) cs ((row_src HG.out HL.out).below hb0) h1
  have hb1 : Below w.heap.size w w' := hb0.grown hg' hb0.size (fun k hk => by cases hk; exact Nat.le_refl _)
  have HR : Hid (w'.heap[w.heap.size]? = some (.cells cs.toArray 25 (0, 0))) := hrow
  clear hown hgrow hcur hsz hg' hrow hb0
  go_wp2
  go_ret
  exact ⟨rfl, HR.out, hb1⟩
end Go.Proofs.Ybulkcrbm

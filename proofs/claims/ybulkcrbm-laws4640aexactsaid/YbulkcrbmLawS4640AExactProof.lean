/-
  The proof of 'Rows.LawS4640AExactSaid'. The frame (the row's step) is the guide's own, written by its skeleton tool; the walk is ours.
-/
import Derived.Test.YbulkcrbmRows
import Derived.Test.YbulkcrbmCopy
import Derived.Deep.QuietTactic
import Derived.BigQuiet
import Derived.Deep.Draws
import Derived.WalkKit
import Derived.ProofKit
import Derived.OpenShut
import Derived.ShutString
import Derived.ChangeOld
import Derived.Below
namespace Go.Proofs.Ybulkcrbm.lawS4640AExact
open Go.ChangeShapes Go.WideShapes Go.ChangeAt Go.RowKit
open Go.ChangeMaps (open_string shut_string)
set_option linter.unusedVariables false

theorem own : ownKnob Yba.prog.godebug = none := by kernel_rfl
theorem laidOut : laidOutB Yba.prog = true := by kernel_rfl

/-- WHAT THE WALK IS TOLD OF A SLICE OF INTEGERS THAT CAME IN: it is nil; or it leads to a row of 'cap' cells, the numbers 'zs' (the first 'len' are its elements, the rest its spare room), each fitting its kind. -/
def IsRow (k : IntKind) (w : World) (a : Option Addr) (len cap : Nat) (zs : List Int) : Prop :=
  (a = none ∧ len = 0 ∧ cap = 0 ∧ zs = []) ∨
  ∃ x, a = some x ∧ len ≤ cap ∧ cap ≤ maxLen ∧ zs.length = cap ∧ (∀ i, i < zs.length → w.cell? (x.add i) = some (.int k (zs.getD i 0))) ∧ ∀ n ∈ zs, (Lit.int k n).wf = true

/-! ### STEP 1: THE WALK: the Go text returns true, AND WRITES NOTHING THAT WAS THERE: 'Below w.heap.size w w'' (Derived/Below.lean: '.refl', '.alloc', '.drew', '.setCell' at a new block, '.trans'). Open each 'IsRow' by 'rcases' AHEAD of 'go_enter'; part every test ahead of the walk. -/
theorem src_of {w : World} {a : Option Addr} {len cap : Nat} {zs : List Int} (h : IsRow .u64 w a len cap zs) : Src w a len ((zs.take len).map (Value.int .u64)) ∧ len ≤ maxLen := by
  rcases h with ⟨rfl, rfl, _, rfl⟩ | ⟨x, rfl, hl, hm, hz, hc, hw⟩
  · exact ⟨⟨rfl, fun _ => rfl, fun x hx => (by cases hx)⟩, Nat.zero_le _⟩
  · refine ⟨⟨by simp; omega, fun h => (by cases h), fun y hy j v hv => ?_⟩, Nat.le_trans hl hm⟩
    obtain rfl : x = y := Option.some.inj hy
    have hlt : j < len := by
      have := (List.getElem?_eq_some_iff.1 hv).1
      simp at this; omega
    rw [hc j (by omega), ← hv]
    simp [hlt, List.getD, show j < zs.length by omega]

/-- An element's cell, at a plain address. -/
theorem src_at {w : World} {a : Option Addr} {n : Nat} {zs : List Int} (h : Src w a n (zs.map (Value.int .u64))) (hpos : 0 < n) :
    ∃ b off, a = some ⟨b, off, none⟩ ∧ ∀ j, j < n → w.cell? ⟨b, off + j, none⟩ = some (.int .u64 (zs.getD j 0)) := by
  obtain ⟨hl, hnil, hc⟩ := h
  have hz : zs.length = n := by simpa using hl
  have hat : ∀ j, j < n → (zs.map (Value.int .u64))[j]? = some (.int .u64 (zs.getD j 0)) := fun j hj => by simp [List.getD, show j < zs.length by omega]
  cases a with
  | none => exact absurd (hnil rfl) (by omega)
  | some x =>
    obtain ⟨b, off, spot⟩ := x
    have hspot : spot = none := by simpa [Addr.add] using World.cell?_spot (hc _ rfl 0 _ (hat 0 hpos))
    subst hspot
    exact ⟨b, off, rfl, fun j hj => by rw [← hc _ rfl j _ (hat j hj), Addr.add_lit]⟩

theorem neq_self (x : Int) : (x != x) = false := by simp

set_option maxHeartbeats 2000000 in
theorem walk (a0 : Option Addr) (len0 cap0 : Nat) (z0 : List Int) (w : World) (w0 : IsRow .u64 w a0 len0 cap0 z0) :
    Calls Yba.prog 3 #[.slice a0 len0 cap0] w fun e w' => e = .returned (.bool true) ∧ Below w.heap.size w w' := by
  obtain ⟨hS, hm⟩ := src_of w0
  unfold maxLen at hm
  clear w0
  by_cases hl : 1024 < len0
  · clear hS
    go_enter Yba.func3, Yba.ntmps3
    go_wp2
    go_ret
    exact ⟨rfl, Below.refl _ _⟩
  have hn : len0 ≤ 1024 := by omega
  have hone := ints_oneCell .u64 (z0.take len0)
  have HS : Hid (Src w a0 len0 ((z0.take len0).map (Value.int .u64))) := hS
  generalize z0.take len0 = ys at HS hone
  clear hS hl hm
  obtain ⟨i0, hi, hz0, hz1, hz2⟩ := info_parts Yba.info25
  have q23 : ∀ (w : World) (a : Option Addr) (n c n' c' : Nat), (binOp .eql 23 (.slice a n c) (.slice none n' c')).run Yba.prog w = .ok (.bool a.isNone) w := fun w a n c n' c' => Lib.run_eql_slice_nil w _ _ a n c n' c' Yba.underlying23
  go_enter Yba.func3, Yba.ntmps3
  go_wp2_with (at_make; refine wpList_make_full _ rfl _ _ 22 rfl w.heap.size 25 i0 (.int .u64 0) 1 Yba.underlying22 hi hz0 hz1 _ _ _ _ len0 rfl rfl (by omega) (by omega) ?b2 ?b3 ?b4 ?_)
  case b2 => rw [hz2]; omega
  case b3 => unfold maxLen; omega
  case b4 => exact Nat.le_refl _
  intro wm hown hgrow
  have hb0 : Below w.heap.size w wm := (Below.refl _ _).grown hgrow (Nat.le_refl _) (fun k hk => by cases hk)
  have hlt0 : w.heap.size < wm.heap.size := (hown.lt w.heap.size rfl).2
  obtain ⟨cur, hcur, hsz⟩ := row_of_owns hown
  obtain ⟨w1, hrun, hrow, hg1, hs1⟩ := copy_full wm w.heap.size len0 cap0 22 Yba.underlying22 cur hcur hsz a0 _ (HS.out.below hb0) hone
  have hb1 : Below w.heap.size w w1 := hb0.grown hg1 hb0.size (fun k hk => by cases hk; exact Nat.le_refl _)
  have HR : Hid (w1.heap[w.heap.size]? = some (.cells (ys.map (Value.int .u64)).toArray 25 (0, 0))) := hrow
  have hlt1 : w.heap.size < w1.heap.size := by omega
  clear hown hgrow hcur hsz hg1 hs1 hrow hb0 hlt0
  go_wp2_with fail
  refine (clone_any w.heap.size len0 (ys.map (Value.int .u64)) w1 hn HR.out HS.out.1 hone).mono ?_
  rintro e w2 ⟨rfl, hrow2, hb2⟩
  have HR2 : Hid (w2.heap[w1.heap.size]? = some (.cells (ys.map (Value.int .u64)).toArray 25 (0, 0))) := hrow2
  have HR1 : Hid (w2.heap[w.heap.size]? = some (.cells (ys.map (Value.int .u64)).toArray 25 (0, 0))) := (hb2.block _ hlt1).trans HR.out
  have hb : Below w.heap.size w w2 := hb1.trans (hb2.mono (by omega))
  clear hrow2 HR hrun hb1 hb2 hi hz0 hz1 hz2 hone
  go_wp2
  go_loopw [5] (fun i wq => ∃ j q : Nat, j ≤ len0 ∧ i = .int .i64 j ∧ wq = w2.drewN q) (fun i _ => len0 - (intOf i).toNat)
  case atStart => exact ⟨0, 0, Nat.zero_le _, rfl, rfl⟩
  case round =>
    obtain ⟨j, q, hj, rfl, rfl⟩ := hrel
    by_cases hlt : j < len0
    · obtain ⟨b, off, rfl, hc⟩ := src_at (HS.out.below hb) (by omega)
      have hl : (ys.map (Value.int .u64)).length = len0 := HS.out.1
      have g := hc j hlt
      obtain ⟨_, _, e1, c1⟩ := src_at (row_src HR1.out hl) (by omega)
      obtain ⟨_, _, e2, c2⟩ := src_at (row_src HR2.out hl) (by omega)
      simp only [Option.some.injEq, Addr.mk.injEq, and_true] at e1 e2
      obtain ⟨rfl, rfl⟩ := e1
      obtain ⟨rfl, rfl⟩ := e2
      have g1 : w2.cell? ⟨w.heap.size, j, none⟩ = some (.int .u64 (ys.getD j 0)) := by simpa using c1 j hlt
      have g2 : w2.cell? ⟨w1.heap.size, j, none⟩ = some (.int .u64 (ys.getD j 0)) := by simpa using c2 j hlt
      clear hc c1 c2 HS HR1 HR2 hl
      generalize ys.getD j 0 = x at g g1 g2
      have hx := neq_self x
      go_wp2_with fail
      go_quiet (fail)
      go_wp2
      go_roundw
      case rel => exact ⟨j + 1, _, by omega, by go_num, rfl⟩
      case measure => simp [intOf]; omega
    · clear HS HR1 HR2
      go_wp2
      go_ret
      exact ⟨rfl, hb.trans ⟨rfl, rfl, rfl, Nat.le_refl _, fun _ _ => rfl⟩⟩

/-! ### THE ROW's STEP: WRITTEN OUT: LEAVE IT -/
set_option maxRecDepth 100000 in
theorem lifted (os : Os) (started : os.Started) (H : Type) (enc : TypeId × Value → H) :
    ReturnsInHanded {} Yba.checked os 3 .any (Rows.lawS4640AExactSpec.pre6 enc Yba.prog Yba.f3 Rows.lawS4640AExactRow.domain false) (Rows.lawS4640AExactSpec.post enc Yba.prog Yba.f3 false true false false) := by
  refine returnsInHanded_of_change (C := Yba.checked) own started (by kernel_rfl) Yba.func3
    (ChangeSpec.witness6 (enc := enc) (C := Yba.checked) false ⟨#[], #[.slice none 0 0], []⟩ 8 (by kernel_rfl) (by kernel_rfl) (by kernel_rfl) (by kernel_rfl)) ?_
  intro W base args ds gs before hval0 hW hcnd _
  have hval : ∀ (j : Nat) t v, Yba.f3.params[j]? = some t → args[j]? = some v → Value.okWide Yba.prog W .any base t v := hval0
  have hW' := hW
  obtain ⟨p, q, hA0, hV, rfl, hfz, hnd⟩ := hW
  have hA : DataW.TrodAll enc Yba.prog W 0 (fun _ => true) true Yba.f3.params.toList args.toList ds p := hA0
  rw [Yba.params3] at hA hval
  obtain ⟨v0, vs0, d0, ds0, p0, q0, hargs, rfl, rfl, h0, r0⟩ := trodAll_cons hA
  obtain ⟨rfl, rfl, rfl⟩ := trodAll_nil r0
  obtain rfl : args = #[v0] := by cases args; simp_all
  obtain ⟨rfl, rfl⟩ := trodVars_none hV
  obtain ⟨a0, len0, cap0, rfl⟩ := okWide_slice Yba.underlying22 (hval 0 22 v0 rfl rfl)
  have k0 := h0
  have lt0 : ∀ x ∈ p0, x.block < W.heap.size := by obtain ⟨m, hm⟩ := k0; exact DataW.trod_lt m _ _ _ hm
  obtain ⟨z0, w0⟩ : ∃ zs, IsRow .u64 W a0 len0 cap0 zs := by
    obtain ⟨fuel, hf⟩ := h0
    rcases open_ints Yba.underlying22 Yba.underlying25 (by kernel_rfl) hf with ⟨hcs, _⟩ | ⟨x, l, c, zs, hcs, _, hl, hm, hz, _, hcell, hwz⟩
    · simp [Value.cells] at hcs
      obtain ⟨rfl, rfl, rfl⟩ := hcs
      exact ⟨[], .inl ⟨rfl, rfl, rfl, rfl⟩⟩
    · simp [Value.cells] at hcs
      obtain ⟨rfl, rfl, rfl⟩ := hcs
      exact ⟨zs, .inr ⟨_, rfl, hl, hm, by simpa using hz, hcell, hwz⟩⟩
  clear hA0 hval0
  refine (walk a0 len0 cap0 z0 W w0).mono fun e W' ⟨he, bel⟩ => ?_
  subst he
  exact ⟨_, rfl, _, _, _, [], _, [], hW', trodAll_mk1 (shut_bool Yba.underlying4 _), (trodAll_cons_mk (Below.trod laidOut (by kernel_rfl) (of_decide_eq_true (by kernel_rfl)) k0 bel lt0) trodAll_mk0), rfl, bel.frame _, fun h => by cases h⟩

theorem over : Rows.lawS4640AExactRow.holds Yba.pinned (OpenSpec.ofChange Rows.lawS4640AExactSpec) :=
  OpenClaim.holds_of_wide 3 Yba.f3 rfl rfl rfl rfl rfl rfl rfl ⟨rfl, rfl, rfl, rfl, rfl⟩ rfl rfl rfl rfl rfl (by kernel_rfl) Yba.func3 (by kernel_rfl)
    (of_decide_eq_true (by kernel_rfl)) (by unfold Func.isWrapper; first | (rw [if_pos (by decide +kernel)]; kernel_rfl) | (rw [if_neg (by decide +kernel)]; exact ⟨rfl, rfl⟩))
    (fun os started H enc _ => lifted os started H enc)

/-- ████ THE STATEMENT ████ -/
theorem proved : Rows.LawS4640AExactSaid := over
#print axioms proved
end Go.Proofs.Ybulkcrbm.lawS4640AExact

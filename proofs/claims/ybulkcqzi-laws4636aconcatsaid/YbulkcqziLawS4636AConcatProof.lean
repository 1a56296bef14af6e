/-
  The proof of 'Rows.LawS4636AConcatSaid'. The frame (the row's step) is the guide's own, written by its skeleton tool; the walk is ours.
-/
import Derived.Test.YbulkcqziRows
import Derived.Test.YbulkcqziJoin
import Derived.Deep.QuietTactic
import Derived.BigQuiet
import Derived.Outline
import Derived.WalkKit
import Derived.ProofKit
import Derived.OpenShut
import Derived.ShutString
import Derived.ChangeOld
import Derived.Below
namespace Go.Proofs.Ybulkcqzi.lawS4636AConcat
open Go.ChangeShapes Go.WideShapes Go.ChangeAt Go.RowKit
open Go.ChangeMaps (open_string shut_string)
set_option linter.unusedVariables false

theorem own : ownKnob Yba.prog.godebug = none := by kernel_rfl
theorem laidOut : laidOutB Yba.prog = true := by kernel_rfl

/-- WHAT THE WALK IS TOLD OF A SLICE OF INTEGERS THAT CAME IN: it is nil; or it leads to a row of 'cap' cells, the numbers 'zs' (the first 'len' are its elements, the rest its spare room), each fitting its kind. -/
def IsRow (k : IntKind) (w : World) (a : Option Addr) (len cap : Nat) (zs : List Int) : Prop :=
  (a = none ∧ len = 0 ∧ cap = 0 ∧ zs = []) ∨
  ∃ x, a = some x ∧ len ≤ cap ∧ cap ≤ maxLen ∧ zs.length = cap ∧ (∀ i, i < zs.length → w.cell? (x.add i) = some (.int k (zs.getD i 0))) ∧ ∀ n ∈ zs, (Lit.int k n).wf = true

/-! ### STEP 1: THE WALK: the Go text returns true, AND WRITES NOTHING THAT WAS THERE: 'Below w.heap.size w w'' (Derived/Below.lean: '.refl', '.alloc', '.drew', '.setCell' at a new block, '.trans'). Open each 'IsRow' by 'rcases' AHEAD of 'go_enter'; part every test ahead of the walk. -/
theorem nums_of {k : IntKind} {w : World} {a : Option Addr} {len cap : Nat} {zs : List Int} (h : IsRow k w a len cap zs) : IsNums k w a len zs ∧ len ≤ maxLen := by
  rcases h with ⟨rfl, rfl, _, _⟩ | ⟨x, rfl, hl, hm, hz, hc, hw⟩
  · exact ⟨.inl ⟨rfl, rfl⟩, Nat.zero_le _⟩
  · exact ⟨.inr ⟨x, rfl, by omega, hc, hw⟩, Nat.le_trans hl hm⟩

set_option maxHeartbeats 4000000 in
set_option maxRecDepth 100000 in
theorem walk_in (a0 : Option Addr) (n cap0 : Nat) (z0 : List Int) (a1 : Option Addr) (m cap1 : Nat) (z1 : List Int) (w : World) (w0 : IsNums .u8 w a0 n z0) (w1 : IsNums .u8 w a1 m z1) (hn : n ≤ 1024) (hm : m ≤ 1024) :
    Calls Yba.prog 3 #[.slice a0 n cap0, .slice a1 m cap1] w fun e w' => e = .returned (.bool true) ∧ Below w.heap.size w w' := by
  have HA : Hid (IsNums .u8 w a0 n z0) := w0
  have HB : Hid (IsNums .u8 w a1 m z1) := w1
  clear w0 w1
  obtain ⟨i0, hi, hz0, hz1, hz2⟩ := info_parts Yba.info23
  go_enter Yba.func3, Yba.ntmps3
  go_wp2_with fail
  refine (link_0 n cap0 a0 z0 w hn HA.out w.heap.size rfl).mono ?_
  rintro e u1 ⟨rfl, L1⟩
  have s1 := L1.size
  have H1 : Hid (LinkedAt w w.heap.size n 0 z0 u1) := L1
  have b1 : Below w.heap.size w u1 := L1.below
  clear L1
  go_wp2_with fail
  refine (link_4096 m cap1 a1 z1 _ hm (nums_below (nums_below HB.out b1) ((Below.refl _ u1).alloc (Nat.le_refl _) _)) (w.heap.size + 4 + 2 * n) (by simp; omega)).mono ?_
  rintro e u2 ⟨rfl, L2⟩
  have s2 : u2.heap.size = w.heap.size + 7 + 2 * n + 2 * m := by rw [L2.size]; omega
  have H2 : Hid (LinkedAt (u1.alloc (queue (headOf w.heap.size n) (tailOf w.heap.size n) n)) (w.heap.size + 4 + 2 * n) m 4096 z1 u2) := L2
  clear L2
  go_wp2_with (at_make; refine wpList_make_own_sz _ rfl _ _ 26 rfl (w.heap.size + 7 + 2 * n + 2 * m + 1) 23 i0 (.pointer none) 1 Yba.underlying26 hi hz0 hz1 _ _ _ (n + m) rfl rfl (by omega) ?b2 ?b3 ?b4 ?_)
  case b2 => rw [hz2]; omega
  case b3 => unfold maxLen; omega
  case b4 => simp; omega
  intro u3 o3 g3 s3
  have R3 : Hid _ := rows_at H1.out H2.out g3
  have G3 : Hid ((u2.alloc (queue (headOf (w.heap.size + 4 + 2 * n) m) (tailOf (w.heap.size + 4 + 2 * n) m) m)).grownBy u3 none) := g3
  clear g3
  go_wp2_with (at_builtin; refine wpList_append_fits_sz _ rfl _ _ 26 rfl (w.heap.size + 7 + 2 * n + 2 * m + 1) 23 i0 1 Yba.underlying26 hi hz1 (w.heap.size + 7 + 2 * n + 2 * m + 1) 0 (n + m) [] rfl o3 ⟨w.heap.size + 2, 0, none⟩ n n (ptrs w.heap.size n) rfl ?c0 ?c1 ?c2 ?c3 ?_)
  case c0 => rw [ptrs_length, Nat.mul_one]
  case c1 => exact row_cells R3.out.1
  case c2 => exact ptrs_one _ _
  case c3 => omega
  intro u4 o4 g4 s4
  have R4 : Hid (u4.ownsRow (w.heap.size + 4 + 2 * n + 2) 23 1 (.slice (some ⟨w.heap.size + 4 + 2 * n + 2, 0, none⟩) m m) m (ptrs (w.heap.size + 4 + 2 * n) m)) :=
    row_kept R3.out.2 (g4.block _ (by omega) (by simp; omega))
  have G4 : Hid (u3.grownBy u4 (some (w.heap.size + 7 + 2 * n + 2 * m + 1))) := g4
  clear g4 R3 o3
  go_wp2_with (at_builtin; refine wpList_append_fits_sz _ rfl _ _ 26 rfl (w.heap.size + 7 + 2 * n + 2 * m + 1) 23 i0 1 Yba.underlying26 hi hz1 (w.heap.size + 7 + 2 * n + 2 * m + 1) n (n + m) (ptrs w.heap.size n) rfl o4 ⟨w.heap.size + 4 + 2 * n + 2, 0, none⟩ m m (ptrs (w.heap.size + 4 + 2 * n) m) rfl ?d0 ?d1 ?d2 ?d3 ?_)
  case d0 => rw [ptrs_length, Nat.mul_one]
  case d1 => exact row_cells R4.out
  case d2 => exact ptrs_one _ _
  case d3 => omega
  intro u5 o5 g5 s5
  have R5 : Hid (Ready u5 w.heap.size n m z0 z1 ∧ Below w.heap.size w u5) := ready_of rfl H1.out H2.out G3.out G4.out g5 o5
  clear g5 R4 o4 o5 G3 G4 H1 H2
  go_wp2_with fail
  refine (push_any _ w.heap.size n m z0 z1 hn hm R5.out.1).mono ?_
  rintro e u6 ⟨rfl, J, hsame⟩
  have b6 : Hid (Below w.heap.size w u6) := R5.out.2.trans ⟨hsame.os, hsame.tape, hsame.output, by rw [hsame.size]; exact Nat.le_refl _, fun c hc => hsame.block c (by omega)⟩
  have HJ : Hid (Joined u6 w.heap.size n m z0 z1) := J
  obtain ⟨q0, q1, q2, _, _, _⟩ := queue_cells J.q
  obtain ⟨f0, f1, f2, _, _, _⟩ := queue_cells J.f
  clear J R5 hsame s2 s3 s4 s5 s1 b1 hi hz0 hz1 hz2
  by_cases hT : n + m = 0
  · rw [if_pos hT] at q0 q1
    have hn0 : n = 0 := by omega
    have hm0 : m = 0 := by omega
    subst hn0 hm0
    clear hT HA HB HJ
    go_wp2
    go_ret
    exact ⟨rfl, b6.out⟩
  rw [if_neg hT] at q0 q1
  have hpos : 0 < n + m := by omega
  have x1 := joined_row HJ.out (k := n + m - 1) (by omega)
  have x2 : u6.cell? ⟨P w.heap.size n (n + m - 1), 9, none⟩ = some (.pointer none) := by
    rw [joined_next HJ.out (by omega), if_neg (by omega)]
  have q0' : u6.cell? ⟨w.heap.size + 3 + 2 * n, 0, none⟩ = some (.pointer (some ⟨P w.heap.size n 0, 0, none⟩)) := q0
  have q1' : u6.cell? ⟨w.heap.size + 3 + 2 * n, 1, none⟩ = some (.pointer (some ⟨P w.heap.size n (n + m - 1), 0, none⟩)) := q1
  clear q0 q1 hT
  have hi1 : (n : Int) + m - 1 < (n : Int) + m := by omega
  have hi0 : (0 : Int) ≤ (n : Int) + m - 1 := by omega
  have hneq := neq_same
  go_wp2
  go_quiet (fail)
  clear q1' x1 x2
  go_wp2
  go_loop [10, 11] (fun p i => ∃ k : Nat, k ≤ n + m ∧ i = .int .i64 k ∧ p = .pointer (if k < n + m then some ⟨P w.heap.size n k, 0, none⟩ else none)) (fun _ i => n + m - (intOf i).toNat)
  case atStart => exact ⟨0, Nat.zero_le _, rfl, by rw [if_pos hpos]⟩
  case round =>
    obtain ⟨k, hk, rfl, rfl⟩ := hrel
    by_cases hlt : k < n + m
    · have x1 := joined_row HJ.out hlt
      have x2 := joined_next HJ.out hlt
      rw [if_pos hlt]
      generalize hnx : (if k + 1 < n + m then some (⟨P w.heap.size n (k + 1), 0, none⟩ : Addr) else none) = nx at x2
      have HX : Hid ((if k + 1 < n + m then some (⟨P w.heap.size n (k + 1), 0, none⟩ : Addr) else none) = nx) := hnx
      clear hnx
      go_wp2
      go_round
      case rel => exact ⟨k + 1, by omega, by go_num, by rw [HX.out]⟩
      case measure => simp [intOf]; omega
    · rw [if_neg hlt]
      clear q0' q2 f0 f1 f2
      go_wp2
      go_loopw [12] (fun i wq => ∃ j q : Nat, j ≤ n ∧ i = .int .i64 j ∧ wq = u6.drewN q) (fun i _ => n - (intOf i).toNat)
      case atStart => exact ⟨0, _, Nat.zero_le _, rfl, rfl⟩
      case round =>
        obtain ⟨j, q, hj, rfl, rfl⟩ := hrel
        by_cases hlt : j < n
        · obtain ⟨b, off, rfl, hb, hle, hc, hwf⟩ := nums_at (nums_below HA.out b6.out) (by omega)
          have g := hc j hlt
          have hw := bounds_u8 (hwf j hlt)
          obtain ⟨y1, y2⟩ := joined_qs HJ.out hlt
          have hadj : w.heap.size + 2 < w.heap.size + 3 := by omega
          clear hc hwf HA HB hadj
          generalize z0.getD j 0 = x at g hw y2
          go_wp2_with fail
          go_quiet (fail)
          go_wp2
          go_roundw
          case rel => exact ⟨j + 1, _, by omega, by go_num, rfl⟩
          case measure => simp [intOf]; omega
        · go_wp2
          go_loopw [13] (fun i wq => ∃ j q : Nat, j ≤ m ∧ i = .int .i64 j ∧ wq = u6.drewN q) (fun i _ => m - (intOf i).toNat)
          case atStart => exact ⟨0, _, Nat.zero_le _, rfl, rfl⟩
          case round =>
            obtain ⟨j2, q2, hj2, rfl, rfl⟩ := hrel
            by_cases hlt2 : j2 < m
            · obtain ⟨b, off, rfl, hb, hle, hc, hwf⟩ := nums_at (nums_below HB.out b6.out) (by omega)
              have g := hc j2 hlt2
              have hw := bounds_u8 (hwf j2 hlt2)
              obtain ⟨y1, y2⟩ := joined_fs HJ.out hlt2
              clear hc hwf HA HB
              generalize z1.getD j2 0 = x at g hw y2
              go_wp2_with fail
              go_quiet (fail)
              go_wp2
              go_roundw
              case rel => exact ⟨j2 + 1, _, by omega, by go_num, rfl⟩
              case measure => simp [intOf]; omega
            · go_wp2
              go_ret
              exact ⟨rfl, b6.out.trans ⟨rfl, rfl, rfl, Nat.le_refl _, fun _ _ => rfl⟩⟩

set_option maxRecDepth 100000 in
theorem walk (a0 : Option Addr) (len0 cap0 : Nat) (z0 : List Int) (a1 : Option Addr) (len1 cap1 : Nat) (z1 : List Int) (w : World) (w0 : IsRow .u8 w a0 len0 cap0 z0) (w1 : IsRow .u8 w a1 len1 cap1 z1) :
    Calls Yba.prog 3 #[.slice a0 len0 cap0, .slice a1 len1 cap1] w fun e w' => e = .returned (.bool true) ∧ Below w.heap.size w w' := by
  obtain ⟨hN, hm⟩ := nums_of w0
  obtain ⟨hN1, hm1⟩ := nums_of w1
  unfold maxLen at hm hm1
  clear w0 w1
  by_cases h0 : 1024 < len0
  · clear hN hN1
    go_enter Yba.func3, Yba.ntmps3
    go_wp2
    go_ret
    exact ⟨rfl, Below.refl _ _⟩
  by_cases h1 : 1024 < len1
  · clear hN hN1
    go_enter Yba.func3, Yba.ntmps3
    go_wp2
    go_ret
    exact ⟨rfl, Below.refl _ _⟩
  exact walk_in a0 len0 cap0 z0 a1 len1 cap1 z1 w hN hN1 (by omega) (by omega)

/-! ### THE ROW's STEP: WRITTEN OUT: LEAVE IT -/
set_option maxRecDepth 100000 in
theorem lifted (os : Os) (started : os.Started) (H : Type) (enc : TypeId × Value → H) :
    ReturnsInHanded {} Yba.checked os 3 .any (Rows.lawS4636AConcatSpec.pre6 enc Yba.prog Yba.f3 Rows.lawS4636AConcatRow.domain false) (Rows.lawS4636AConcatSpec.post enc Yba.prog Yba.f3 false true false false) := by
  refine returnsInHanded_of_change (C := Yba.checked) own started (by kernel_rfl) Yba.func3
    (ChangeSpec.witness6 (enc := enc) (C := Yba.checked) false ⟨#[], #[.slice none 0 0, .slice none 0 0], []⟩ 8 (by kernel_rfl) (by kernel_rfl) (by kernel_rfl) (by kernel_rfl)) ?_
  intro W base args ds gs before hval0 hW hcnd _
  have hval : ∀ (j : Nat) t v, Yba.f3.params[j]? = some t → args[j]? = some v → Value.okWide Yba.prog W .any base t v := hval0
  have hW' := hW
  obtain ⟨p, q, hA0, hV, rfl, hfz, hnd⟩ := hW
  have hA : DataW.TrodAll enc Yba.prog W 0 (fun _ => true) true Yba.f3.params.toList args.toList ds p := hA0
  rw [Yba.params3] at hA hval
  obtain ⟨v0, vs0, d0, ds0, p0, q0, hargs, rfl, rfl, h0, r0⟩ := trodAll_cons hA
  obtain ⟨v1, vs1, d1, ds1, p1, q1, rfl, rfl, rfl, h1, r1⟩ := trodAll_cons r0
  obtain ⟨rfl, rfl, rfl⟩ := trodAll_nil r1
  obtain rfl : args = #[v0, v1] := by cases args; simp_all
  obtain ⟨rfl, rfl⟩ := trodVars_none hV
  obtain ⟨a0, len0, cap0, rfl⟩ := okWide_slice Yba.underlying22 (hval 0 22 v0 rfl rfl)
  have k0 := h0
  have lt0 : ∀ x ∈ p0, x.block < W.heap.size := by obtain ⟨m, hm⟩ := k0; exact DataW.trod_lt m _ _ _ hm
  obtain ⟨z0, w0⟩ : ∃ zs, IsRow .u8 W a0 len0 cap0 zs := by
    obtain ⟨fuel, hf⟩ := h0
    rcases open_ints Yba.underlying22 Yba.underlying5 (by kernel_rfl) hf with ⟨hcs, _⟩ | ⟨x, l, c, zs, hcs, _, hl, hm, hz, _, hcell, hwz⟩
    · simp [Value.cells] at hcs
      obtain ⟨rfl, rfl, rfl⟩ := hcs
      exact ⟨[], .inl ⟨rfl, rfl, rfl, rfl⟩⟩
    · simp [Value.cells] at hcs
      obtain ⟨rfl, rfl, rfl⟩ := hcs
      exact ⟨zs, .inr ⟨_, rfl, hl, hm, by simpa using hz, hcell, hwz⟩⟩
  obtain ⟨a1, len1, cap1, rfl⟩ := okWide_slice Yba.underlying22 (hval 1 22 v1 rfl rfl)
  have k1 := h1
  have lt1 : ∀ x ∈ p1, x.block < W.heap.size := by obtain ⟨m, hm⟩ := k1; exact DataW.trod_lt m _ _ _ hm
  obtain ⟨z1, w1⟩ : ∃ zs, IsRow .u8 W a1 len1 cap1 zs := by
    obtain ⟨fuel, hf⟩ := h1
    rcases open_ints Yba.underlying22 Yba.underlying5 (by kernel_rfl) hf with ⟨hcs, _⟩ | ⟨x, l, c, zs, hcs, _, hl, hm, hz, _, hcell, hwz⟩
    · simp [Value.cells] at hcs
      obtain ⟨rfl, rfl, rfl⟩ := hcs
      exact ⟨[], .inl ⟨rfl, rfl, rfl, rfl⟩⟩
    · simp [Value.cells] at hcs
      obtain ⟨rfl, rfl, rfl⟩ := hcs
      exact ⟨zs, .inr ⟨_, rfl, hl, hm, by simpa using hz, hcell, hwz⟩⟩
  clear hA0 hval0
  refine (walk a0 len0 cap0 z0 a1 len1 cap1 z1 W w0 w1).mono fun e W' ⟨he, bel⟩ => ?_
  subst he
  exact ⟨_, rfl, _, _, _, [], _, [], hW', trodAll_mk1 (shut_bool Yba.underlying4 _), (trodAll_cons_mk (Below.trod laidOut (by kernel_rfl) (of_decide_eq_true (by kernel_rfl)) k0 bel lt0) (trodAll_cons_mk (Below.trod laidOut (by kernel_rfl) (of_decide_eq_true (by kernel_rfl)) k1 bel lt1) trodAll_mk0)), rfl, bel.frame _, fun h => by cases h⟩

theorem over : Rows.lawS4636AConcatRow.holds Yba.pinned (OpenSpec.ofChange Rows.lawS4636AConcatSpec) :=
  OpenClaim.holds_of_wide 3 Yba.f3 rfl rfl rfl rfl rfl rfl rfl ⟨rfl, rfl, rfl, rfl, rfl⟩ rfl rfl rfl rfl rfl (by kernel_rfl) Yba.func3 (by kernel_rfl)
    (of_decide_eq_true (by kernel_rfl)) (by unfold Func.isWrapper; first | (rw [if_pos (by decide +kernel)]; kernel_rfl) | (rw [if_neg (by decide +kernel)]; exact ⟨rfl, rfl⟩))
    (fun os started H enc _ => lifted os started H enc)

/-- ████ THE STATEMENT ████ -/
theorem proved : Rows.LawS4636AConcatSaid := over
#print axioms proved
end Go.Proofs.Ybulkcqzi.lawS4636AConcat

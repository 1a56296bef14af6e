/-
  The contract of normalised at words.
-/
import Derived.Test.YbulkcqwcFmtEntry
import Derived.Lib.Zigzag
namespace Go.Proofs.YbulkcqwcFmt
open Go Go.RowKit
set_option linter.unusedVariables false

set_option maxHeartbeats 1000000 in
set_option maxRecDepth 100000 in
theorem normalised_some (U : Nat) (hU : U < 8589934592) (g m cap i q : Nat) (i0 q0 : Nat) (w : World) (hi0 : i0 < 72057594037927936) (hm : m ≤ 1048576) (hc : m + 1 ≤ cap) (hcm : cap ≤ maxLen) (hgw : g < w.heap.size)
    (c0 : w.cell? ⟨g, m * 2, none⟩ = some (.int .u64 i)) (c1 : w.cell? ⟨g, m * 2 + 1, none⟩ = some (.int .u64 q))
    (d0 : w.cell? ⟨g, 0, none⟩ = some (.int .u64 i0)) (d1 : w.cell? ⟨g, 1, none⟩ = some (.int .u64 q0)) (f1 : w.frozen? ⟨g, 1, none⟩ = false) (hT : Tab w) (h0g : 0 < w.heap.size)
    (x : Nat) (hx : x < 18446744073709551616) (ho : x % 2 = 1) (hsh : i0 * 64 ≤ U → U < i0 * 64 + 63)
    (hsame : Below w.heap.size w (w.setCell ⟨g, 1, none⟩ (.int .u64 q0))) (hq0 : 0 < q0)
    (hand : i0 * 64 ≤ U → bits .andNot .u64 (q0 : Int) (IntKind.u64.wrap (IntKind.u64.wrap (2 ^ (U - i0 * 64)) - 1)) = (q0 : Int))
    (hxor : i0 * 64 ≤ U → bits .xor .u64 IntKind.u64.max ((q0 : Int) / 2 ^ (U - i0 * 64)) = (x : Int)) :
    Calls Ybaf.prog 20 #[.int .u64 U, .slice (some ⟨g, 0, none⟩) (m + 1 : Nat) cap] w fun e w' => e = .returned (.agg #[.int .u64 U, .slice (some ⟨g, 0, none⟩) m cap, .int .u64 i, .int .u64 q]) ∧ Below w.heap.size w w' := by
  go_enter Ybaf.func20, Ybaf.ntmps20
  go_wp2
  go_loopw [0, 1] (fun v0 v1 wr => v0 = .int .u64 U ∧ v1 = .slice (some ⟨g, 0, none⟩) (m + 1 : Nat) cap ∧ wr = w.alloc (.cells #[.int .u64 0, .slice none 0 0, .int .u64 0, .int .u64 0] 40)) (fun _ _ _ => 0)
  case atStart => exact ⟨rfl, rfl, rfl⟩
  case round =>
    obtain ⟨rfl, rfl, rfl⟩ := hrel
    have C : Hid (w.cell? ⟨g, m * 2, none⟩ = some (.int .u64 i) ∧ w.cell? ⟨g, m * 2 + 1, none⟩ = some (.int .u64 q) ∧ m + 1 ≤ cap ∧ cap ≤ maxLen) := ⟨c0, c1, hc, hcm⟩
    clear c0 c1 hc hcm
    have hmax : (U : Int) < 18446744073709551615 := by omega
    have hmax2 : ((U : Int) == 18446744073709551615) = false := by simp; omega
    iterate 26 (first | go_values | go_skip | go_guarded | go_step | go_upon | go_in | go_back)
    clear hmax
    by_cases hfirst : (U : Int) < (i0 : Int) * 64
    · go_wp2_with fail
      refine (listOf_some g m cap i q _ hm C.out.2.2.1 C.out.2.2.2 (by simp; omega) ?q1 ?q2).mono ?_
      case q1 => rw [((Below.refl _ w).alloc (Nat.le_refl _) _).cell (p := ⟨g, m * 2, none⟩) hgw]; exact C.out.1
      case q2 => rw [((Below.refl _ w).alloc (Nat.le_refl _) _).cell (p := ⟨g, m * 2 + 1, none⟩) hgw]; exact C.out.2.1
      rintro e w1 ⟨rfl, hb1⟩
      obtain ⟨z0, z1, z2, z3, y0, y1, y2, y3, X⟩ := res40 w.heap.size (by simp) hb1 (heap_alloc_new _ _)
      go_wp2
      refine bodyPost_ret (v := .agg #[.int .u64 U, .slice (some ⟨g, 0, none⟩) m cap, .int .u64 i, .int .u64 q]) (results_cell_row rfl _ _ w.heap.size 40 _ _ _ (by rfl) (set4 X.out _ _ _ _) Ybaf.underlying40 (by rfl) size40) rfl ⟨rfl, ?_⟩
      exact below4 (((Below.refl _ w).alloc (Nat.le_refl _) _).trans (hb1.mono (by simp))) (Nat.le_refl _) _ _ _ _
    · have hnf : (i0 : Int) * 64 ≤ (U : Int) := by omega
      have hsh' := hsh (by omega)
      have hxor' := hxor (by omega)
      have hz := ctz_odd x hx ho
      go_wp2_with (simp only [hxor'])
      have htz := tz64 x hx (by omega) (w.alloc (.cells #[.int .u64 0, .slice none 0 0, .int .u64 0, .int .u64 0] 40)) (hT.below ((Below.refl _ w).alloc (Nat.le_refl _) _) h0g)
      rw [hz] at htz
      refine htz.mono ?_
      clear htz
      rintro e w1 ⟨rfl, rfl⟩
      have hand' := hand (by omega)
      have hq : ((q0 : Int) == 0) = false := by simp; omega
      have hq' : ((q0 : Int) != 0) = true := by simp; omega
      go_wp2_with fail
      refine (listOf_some g m cap i q _ hm C.out.2.2.1 C.out.2.2.2 (by simp; omega) ?q1 ?q2).mono ?_
      case q1 => rw [(hsame.alloc (by simp) _).cell (p := ⟨g, m * 2, none⟩) hgw]; exact C.out.1
      case q2 => rw [(hsame.alloc (by simp) _).cell (p := ⟨g, m * 2 + 1, none⟩) hgw]; exact C.out.2.1
      rintro e w1 ⟨rfl, hb1⟩
      obtain ⟨z0, z1, z2, z3, y0, y1, y2, y3, X⟩ := res40 w.heap.size (by simp) hb1 (by have := heap_alloc_new (w.setCell ⟨g, 1, none⟩ (.int .u64 q0)) (.cells #[.int .u64 0, .slice none 0 0, .int .u64 0, .int .u64 0] 40 (0, 0)); simpa using this)
      go_wp2
      refine bodyPost_ret (v := .agg #[.int .u64 U, .slice (some ⟨g, 0, none⟩) m cap, .int .u64 i, .int .u64 q]) (results_cell_row rfl _ _ w.heap.size 40 _ _ _ (by rfl) (set4 X.out _ _ _ _) Ybaf.underlying40 (by rfl) size40) rfl ⟨rfl, ?_⟩
      exact below4 ((hsame.alloc (by simp) _).trans (hb1.mono (by simp))) (Nat.le_refl _) _ _ _ _

/-- Where a list of words lies: front and back. -/
def LsAt (w : World) (f : Value) (i q : Nat) (ws : List Word) : Prop :=
  (f = .slice none 0 0 ∧ i = 0 ∧ q = 0 ∧ ws = []) ∨
  ∃ (g cap : Nat) (init : List Word) (ps : List Nat), f = .slice (some ⟨g, 0, none⟩) init.length cap ∧ q = val ps ∧ ws = init ++ [(i, ps)] ∧ init.length ≤ 1048576 ∧ init.length ≤ cap ∧ g < w.heap.size ∧
    ∀ j u, (wcells init)[j]? = some u → w.cell? ⟨g, j, none⟩ = some u

theorem lsAt_nil (w : World) : LsAt w (.slice none 0 0) 0 0 [] := .inl ⟨rfl, rfl, rfl, rfl⟩
theorem lsAt_some {w : World} (g cap : Nat) (init : List Word) (i : Nat) (ps : List Nat) (hlen : init.length ≤ 1048576) (hcap : init.length ≤ cap) (hg : g < w.heap.size) (hc : ∀ j u, (wcells init)[j]? = some u → w.cell? ⟨g, j, none⟩ = some u) :
    LsAt w (.slice (some ⟨g, 0, none⟩) init.length cap) i (val ps) (init ++ [(i, ps)]) := .inr ⟨g, cap, init, ps, rfl, rfl, rfl, hlen, hcap, hg, hc⟩

theorem LsAt.below {w w' : World} {f : Value} {i q : Nat} {ws : List Word} (h : LsAt w f i q ws) (hb : Below w.heap.size w w') : LsAt w' f i q ws := by
  rcases h with ⟨rfl, rfl, rfl, rfl⟩ | ⟨g, cap, init, ps, rfl, rfl, rfl, hlen, hcap, hg, hc⟩
  · exact lsAt_nil _
  ·
    exact lsAt_some g cap init i ps hlen hcap (Nat.lt_of_lt_of_le hg hb.size) (fun j u hj => (hb.cell (p := ⟨g, j, none⟩) hg).trans (hc j u hj))

theorem LsAt.kept {w w' : World} {f : Value} {i q : Nat} {ws : List Word} {T : Nat → Prop} (h : LsAt w f i q ws) (k : Kept w w' T) (hT : ∀ g, f.ownBlock = some g → ¬ T g) : LsAt w' f i q ws := by
  rcases h with ⟨rfl, rfl, rfl, rfl⟩ | ⟨g, cap, init, ps, rfl, rfl, rfl, hlen, hcap, hg, hc⟩
  · exact lsAt_nil _
  ·
    exact lsAt_some g cap init i ps hlen hcap (Nat.lt_of_lt_of_le hg k.size) (fun j u hj => (World.cell?_of_block (w := w) (a := ⟨g, j, none⟩) (k.block g hg (hT g rfl))).trans (hc j u hj))

theorem LsAt.form {w : World} {f : Value} {i q : Nat} {ws : List Word} (h : LsAt w f i q ws) : ∃ a n c, f = .slice a n c := by
  rcases h with ⟨rfl, rfl, rfl, rfl⟩ | ⟨g, cap, init, ps, rfl, rfl, rfl, hlen, hcap, hg, hc⟩
  · exact ⟨_, _, _, rfl⟩
  · exact ⟨_, _, _, rfl⟩

theorem Tab.kept {w w' : World} {T : Nat → Prop} (h : Tab w) (k : Kept w w' T) (h0 : 0 < w.heap.size) (hT : ¬ T 0) : Tab w' :=
  fun j hj => (World.cell?_of_block (w := w) (a := ⟨0, j, none⟩) (k.block 0 h0 hT)).trans (h j hj)

theorem pow_cast (s : Nat) : ((2 : Int) ^ s) = ((2 ^ s : Nat) : Int) := by simp

theorem and_compl (V m : Nat) (hV : V < 18446744073709551616) (hm : m < 18446744073709551616) (h : V &&& m = 0) : V &&& (18446744073709551615 - m) = V := by
  apply Nat.eq_of_testBit_eq
  intro i
  rw [Nat.testBit_and, show 18446744073709551615 - m = 2 ^ 64 - (m + 1) by omega, Nat.testBit_two_pow_sub_succ hm]
  have hi := congrArg (fun z => z.testBit i) h
  simp only [Nat.testBit_and, Nat.zero_testBit] at hi
  cases hv : V.testBit i with
  | false => simp
  | true =>
    rw [hv] at hi
    simp only [Bool.true_and] at hi
    have h64 : i < 64 := by
      by_cases h64 : i < 64
      · exact h64
      · have : V < 2 ^ i := Nat.lt_of_lt_of_le hV (show (18446744073709551616 : Nat) ≤ 2 ^ i from Nat.pow_le_pow_right (n := 2) (i := 64) (j := i) (by decide) (by omega))
        rw [Nat.testBit_lt_two_pow this] at hv
        exact absurd hv (by simp)
    simp [hi, h64]

theorem normalised_any (B U : Nat) (hU : U < 8589934592) (ws : List Word) (cs : List Nat) (hg : Good ws cs) (hcs : ∀ c ∈ cs, U + 2 ≤ c) (hlen : ws.length ≤ 1048576)
    (v : Value) (w : World) (hown : w.ownsRow B 36 2 v ws.length (wcells ws)) (hT : Tab w) (h0 : 0 < w.heap.size) :
    Calls Ybaf.prog 20 #[.int .u64 U, v] w fun e w' => ∃ f i q, e = .returned (.agg #[.int .u64 U, f, .int .u64 (i : Nat), .int .u64 (q : Nat)]) ∧ LsAt w' f i q ws ∧ Below w.heap.size w w' ∧ ∀ k, f.ownBlock = some k → B ≤ k := by
  rcases List.eq_nil_or_concat ws with rfl | ⟨init, ⟨i, ps⟩, rfl⟩
  · rcases hown.2 with ⟨rfl, _⟩ | ⟨g, cap, cur, rfl, _⟩
    all_goals
      refine (normalised_nil U hU _ _ w).mono ?_
      rintro e w' ⟨rfl, hb⟩
      exact ⟨_, 0, 0, rfl, lsAt_nil _, hb, by simp [Value.ownBlock]⟩
  · rw [List.concat_eq_append] at hg hown hlen ⊢
    have hll : (init ++ [(i, ps)]).length = init.length + 1 := by simp
    rw [hll] at hown hlen
    rcases hown.2 with ⟨_, hh⟩ | ⟨g, cap, cur, rfl, hBg, hgr, hnc, hcm, hcsz, htake⟩
    · omega
    have hgw := lt_of_block hgr
    have hwl := wcells_length (init ++ [(i, ps)])
    rw [hll] at hwl
    obtain ⟨w0, rest, hw0⟩ : ∃ w0 rest, init ++ [(i, ps)] = w0 :: rest := by
      cases init with
      | nil => exact ⟨_, _, rfl⟩
      | cons a t => exact ⟨_, _, rfl⟩
    obtain ⟨i0, ps0⟩ := w0
    have hn0 := hg.nice (i0, ps0) (by rw [hw0]; simp)
    obtain ⟨p0, pt, hp0⟩ := nice_cons hn0
    simp only at hp0
    subst hp0
    obtain ⟨_, hasc, h64, hi0⟩ := hn0
    simp only at hasc h64 hi0
    have hq0 := val_lt64 hasc h64
    have hpos : 0 < val (p0 :: pt) := val_pos
    have hfirst := hcs _ (Good.first (hw0 ▸ hg))
    have hp064 := h64 p0 (by simp)
    have hall : ∀ q ∈ p0 :: pt, p0 ≤ q := by
      intro q hq
      rcases List.mem_cons.1 hq with rfl | hq
      · exact Nat.le_refl _
      · exact Nat.le_of_lt (hasc.head_lt q hq)
    have c0 := hown.cellAt (init.length * 2) (by omega)
    have c1 := hown.cellAt (init.length * 2 + 1) (by omega)
    have d0 := hown.cellAt 0 (by omega)
    have d1 := hown.cellAt 1 (by omega)
    have e0 : wcells ((i0, p0 :: pt) :: rest) = .int .u64 i0 :: .int .u64 (val (p0 :: pt)) :: wcells rest := by simp [wcells]
    rw [hw0, e0] at d0 d1
    simp only [List.getElem?_cons_zero, List.getElem?_cons_succ] at d0 d1
    rw [wcells_append, wcells_one, List.getElem?_append_right (by rw [wcells_length]; omega), wcells_length] at c0 c1
    simp only [Nat.sub_self, Nat.add_sub_cancel_left, List.getElem?_cons_zero, List.getElem?_cons_succ] at c0 c1
    have hcur1 : cur[1]? = some (.int .u64 (val (p0 :: pt) : Nat)) := by
      rw [← cell_of_row w g 1 cur 36 _ hgr]; exact d1
    have hsame := below_same w g 1 cur 36 _ hgr hcur1
    have key : ∀ s, s < p0 → ∃ x : Nat, x < 18446744073709551616 ∧ x % 2 = 1 ∧ bits .xor .u64 IntKind.u64.max ((val (p0 :: pt) : Int) / 2 ^ s) = (x : Int) ∧
        bits .andNot .u64 (val (p0 :: pt) : Int) (IntKind.u64.wrap (IntKind.u64.wrap (2 ^ s) - 1)) = (val (p0 :: pt) : Int) := by
      intro s hs
      have hev := val_shift_even s (p0 :: pt) (fun q hq => by have := hall q hq; omega)
      have hlz := val_low_zero s (p0 :: pt) (fun q hq => by have := hall q hq; omega)
      have hpw : (2 : Nat) ^ s < 18446744073709551616 := Nat.lt_of_lt_of_le (Nat.pow_lt_pow_right (by decide) (by omega : s < 64)) (by decide)
      have hpw0 : 0 < (2 : Nat) ^ s := Nat.pos_of_ne_zero (by simp)
      generalize val (p0 :: pt) = V at *
      have hdl : V / 2 ^ s < 18446744073709551616 := Nat.lt_of_le_of_lt (Nat.div_le_self _ _) hq0
      obtain ⟨Y, hY⟩ : ∃ Y, Y = V / 2 ^ s := ⟨_, rfl⟩
      rw [← hY] at hev hdl
      refine ⟨18446744073709551615 - Y, by omega, by omega, ?_, ?_⟩
      · rw [pow_cast, ← Int.natCast_ediv, ← hY, show IntKind.u64.max = ((18446744073709551615 : Nat) : Int) from rfl, u64_xor_nat _ _ (by decide) hdl]
        have hxx : 18446744073709551615 ^^^ Y = 18446744073709551615 - Y := Lib.xor_ones64 Y hdl
        rw [hxx]
      · rw [pow_cast]
        have e1 : IntKind.u64.wrap (IntKind.u64.wrap ((2 ^ s : Nat) : Int) - 1) = ((2 ^ s - 1 : Nat) : Int) := by
          rw [IntKind.wrap_u64, IntKind.wrap_u64]; omega
        rw [e1, u64_andNot_nat _ _ hq0 (by omega)]
        rw [and_compl V _ hq0 (by omega) hlz]
    obtain ⟨x, hx, ho, hxor, hand⟩ : ∃ x : Nat, x < 18446744073709551616 ∧ x % 2 = 1 ∧ (i0 * 64 ≤ U → bits .xor .u64 IntKind.u64.max ((val (p0 :: pt) : Int) / 2 ^ (U - i0 * 64)) = (x : Int)) ∧
        (i0 * 64 ≤ U → bits .andNot .u64 (val (p0 :: pt) : Int) (IntKind.u64.wrap (IntKind.u64.wrap (2 ^ (U - i0 * 64)) - 1)) = (val (p0 :: pt) : Int)) := by
      by_cases h : i0 * 64 ≤ U
      · obtain ⟨x, a, b, c, d⟩ := key (U - i0 * 64) (by omega)
        exact ⟨x, a, b, fun _ => c, fun _ => d⟩
      · exact ⟨1, by omega, by omega, fun h' => absurd h' h, fun h' => absurd h' h⟩
    refine (normalised_some U hU g init.length cap i (val ps) i0 (val (p0 :: pt)) w hi0 (by omega) (by omega) hcm hgw c0 c1 d0 d1 (hown.frozenAt 1) hT h0 x hx ho (by omega) hsame hpos hand hxor).mono ?_
    rintro e w' ⟨rfl, hb⟩
    refine ⟨_, i, val ps, rfl, lsAt_some g cap init i ps (by omega) (by omega) (Nat.lt_of_lt_of_le hgw hb.size) (fun j u hj => ?_), hb, fun k hk => by simp [Value.ownBlock] at hk; omega⟩
    have hjl : j < init.length * 2 := by
      have := (List.getElem?_eq_some_iff.1 hj).1
      rw [wcells_length] at this; exact this
    rw [hb.cell (p := ⟨g, j, none⟩) hgw, hown.cellAt j (by omega), wcells_append, List.getElem?_append_left (by rw [wcells_length]; exact hjl)]
    exact hj
end Go.Proofs.YbulkcqwcFmt

/-
  The contracts of wordOf, appendCounter, listOf, normalised.
-/
import Derived.Test.YbulkcqwcFmtBits
import Derived.Test.YbulkcqwcFmtLaws
import Derived.Test.YbulkcqwcFmtGood
import Derived.Deep.QuietTactic
import Derived.BigQuiet
import Derived.Deep.LoopGhost
import Derived.Laws.OwnMore
import Derived.Laws.BitsAllLaws
namespace Go.Proofs.YbulkcqwcFmt
open Go Go.RowKit
set_option linter.unusedVariables false

def wv (w : Word) : Value := .agg #[.int .u64 w.1, .int .u64 (val w.2)]
def wcells (ws : List Word) : List Value := ws.flatMap fun w => [.int .u64 w.1, .int .u64 (val w.2)]

theorem wcells_append (a b : List Word) : wcells (a ++ b) = wcells a ++ wcells b := by simp [wcells, List.flatMap_append]
theorem wcells_one (w : Word) : wcells [w] = [.int .u64 w.1, .int .u64 (val w.2)] := by simp [wcells]
theorem wcells_length (ws : List Word) : (wcells ws).length = ws.length * 2 := by
  induction ws with
  | nil => rfl
  | cons a t ih => rw [show a :: t = [a] ++ t from rfl, wcells_append, List.length_append, ih, wcells_one]; simp; omega

/-- What is known of the word of counter n: its index, its place, its bit. -/
structure At (n idx p b : Nat) : Prop where
  hidx : idx = (n - 1) / 64
  hp : p = (n - 1) % 64
  hb : b = 2 ^ p
  lo : 1 ≤ n
  hi : n < 4611686018427387904

theorem At.lt {n idx p b : Nat} (h : At n idx p b) : b < 18446744073709551616 := by
  rw [h.hb]
  have hp := h.hp
  exact Nat.lt_of_lt_of_le (Nat.pow_lt_pow_right (by decide) (by omega : p < 64)) (by decide)

set_option maxHeartbeats 1000000 in
theorem wordOf_c (n idx p b : Nat) (h : At n idx p b) (w : World) :
    Calls Ybaf.prog 29 #[.int .u64 n] w fun e w' => e = .returned (.agg #[.int .u64 idx, .int .u64 b]) ∧ Below w.heap.size w w' := by
  have hlo := h.lo
  have hhi := h.hi
  have hb := h.lt
  have hw : IntKind.u64.wrap (2 ^ ((n - 1) % 64)) = (b : Int) := by
    have e : ((2 : Int) ^ ((n - 1) % 64)) = (b : Int) := by rw [h.hb, h.hp]; simp
    rw [e, IntKind.wrap_u64]
    omega
  have hx := h.hidx
  go_enter Ybaf.func29, Ybaf.ntmps29
  go_wp2
  refine bodyPost_ret (v := .agg #[.int .u64 (((n : Int) - 1) / 64), .int .u64 (IntKind.u64.wrap (2 ^ ((n - 1) % 64)))]) (by simp [results, Ybaf.results29, go_sem, hw]) rfl ⟨?_, ?_⟩
  · rw [hw]
    congr 5
    omega
  · exact (Below.refl _ w).alloc (Nat.le_refl _) _

theorem info36 : (Ybaf.prog.info? 36).map (fun i => (i.zero, i.size, i.bytes)) = some (some (.agg #[.int .u64 0, .int .u64 0]), 2, 16) := by kernel_rfl

theorem Kept.wide {w w' : World} {T S : Nat → Prop} (h : Kept w w' T) (hs : ∀ k, T k → S k) : Kept w w' S :=
  ⟨h.os, h.tape, h.output, h.size, fun k hk hn => h.block k hk (fun ht => hn (hs k ht))⟩

theorem same_end {w W : World} (K : Kept w W (fun _ => False)) {B m g cap : Nat} {xs : List Value} {a c u : Value} (hxs : xs.length = m * 2)
    (hown : w.ownsRow B 36 2 (.slice (some ⟨g, 0, none⟩) (m + 1) cap) (m + 1) (xs ++ [a, c])) :
    (W.setCell ⟨g, m * 2 + 1, none⟩ u).ownsRow B 36 2 (.slice (some ⟨g, 0, none⟩) (m + 1) cap) (m + 1) (xs ++ [a, u]) ∧
    Kept w (W.setCell ⟨g, m * 2 + 1, none⟩ u) (fun k => (Value.slice (some ⟨g, 0, none⟩) (m + 1) cap).ownBlock = some k) ∧
    Lies w (.slice (some ⟨g, 0, none⟩) (m + 1) cap) (.slice (some ⟨g, 0, none⟩) (m + 1) cap) := by
  have h := (K.owns hown (fun _ _ h => h)).stored (m * 2 + 1) u
  refine ⟨?_, ?_, fun _ h => .inl h⟩
  · have e : (xs ++ [a, c]).set (m * 2 + 1) u = xs ++ [a, u] := by
      rw [List.set_append_right _ _ (by omega), hxs]
      simp
    rw [← e]
    exact h.1
  · exact (K.wide (fun _ h => h.elim)).trans (Kept.setCell W ⟨g, m * 2 + 1, none⟩ u) (fun i _ hi => by subst hi; rfl)

set_option maxHeartbeats 1000000 in
set_option maxRecDepth 100000 in
theorem appendCounter_same (B m : Nat) (xs : List Value) (n idx p b q : Nat) (h : At n idx p b) (hq : q < 18446744073709551616) (hlen : m ≤ 1048576)
    (v : Value) (w : World) (hown : w.ownsRow B 36 2 v (m + 1) (xs ++ [.int .u64 idx, .int .u64 q])) (hxs : xs.length = m * 2) :
    Calls Ybaf.prog 18 #[v, .int .u64 n] w fun e w' => ∃ v', e = .returned v' ∧ w'.ownsRow B 36 2 v' (m + 1) (xs ++ [.int .u64 idx, .int .u64 (q ||| b : Nat)]) ∧ Kept w w' (fun k => v.ownBlock = some k) ∧ Lies w v v' := by
  rcases hown.2 with ⟨_, h0⟩ | ⟨g, cap, cur, rfl, hBg, hg, hnc, hcm, hcs, htake⟩
  · omega
  have hgw := lt_of_block hg
  have c0 := hown.cellAt (m * 2) (by omega)
  have c1 := hown.cellAt (m * 2 + 1) (by omega)
  rw [List.getElem?_append_right (by omega), hxs] at c0 c1
  simp only [Nat.sub_self, Nat.add_sub_cancel_left, List.getElem?_cons_zero, List.getElem?_cons_succ] at c0 c1
  have f1 := hown.frozenAt (m * 2 + 1)
  have hor := u64_or_nat q b hq h.lt
  have HO : Hid (w.ownsRow B 36 2 (.slice (some ⟨g, 0, none⟩) (m + 1) cap) (m + 1) (xs ++ [.int .u64 idx, .int .u64 q])) := hown
  clear hown hcs htake
  go_enter Ybaf.func18, Ybaf.ntmps18
  go_wp2_with (go_at_call 29; refine (wordOf_c n idx p b h _).mono ?_; rintro e w1 ⟨rfl, hb1⟩; have d0 := (hb1.cell (p := ⟨g, m * 2, none⟩) hgw).trans c0; have d1 := (hb1.cell (p := ⟨g, m * 2 + 1, none⟩) hgw).trans c1; have e1 := (World.frozen?_of_block (a := ⟨g, m * 2 + 1, none⟩) (hb1.block g hgw)).trans f1; have hgs := Nat.lt_of_lt_of_le hgw hb1.size)
  go_quiet (fail)
  go_wp2
  go_region
  go_wp2
  go_ret
  exact ⟨_, rfl, same_end (((Kept.ofBelow hb1 _).trans (Kept.alloc _ _ (fun _ => False)) (fun _ _ h => h)).trans (Kept.drewN _ _ (fun _ => False)) (fun _ _ h => h)) hxs HO.out⟩

theorem cell_new2 (W : World) (k : Nat) (hk : W.heap.size = k) (x y : Value) (t : TypeId) : ∀ j u, [x, y][j]? = some u → (W.alloc (.cells #[x, y] t)).cell? ((⟨k, 0, none⟩ : Addr).add j) = some u := by
  subst hk
  intro j u hj
  match j, hj with
  | 0, hj => simp at hj; subst hj; simp [Addr.add]
  | 1, hj => simp at hj; subst hj; simp [Addr.add]

theorem kchain {w w1 : World} (hb1 : Below w.heap.size w w1) (o o' : Obj) (q : Nat) : Kept w (((w1.alloc o).drewN q).alloc o') (fun _ => False) :=
  (((Kept.ofBelow hb1 _).trans (Kept.alloc _ _ (fun _ => False)) (fun _ _ h => h)).trans (Kept.drewN _ _ (fun _ => False)) (fun _ _ h => h)).trans (Kept.alloc _ _ (fun _ => False)) (fun _ _ h => h)

theorem new_end {w W W' : World} {v v' : Value} (K : Kept w W (fun _ => False)) (hg : W.grownBy W' v.ownBlock) (k : Nat) (hk : W.heap.size = k) (hat : v'.ownBlock = v.ownBlock ∨ v'.ownBlock = some k) :
    Kept w W' (fun k => v.ownBlock = some k) ∧ Lies w v v' := by
  subst hk
  refine ⟨(K.wide (fun _ h => h.elim)).trans (Kept.grown hg) (fun _ _ h => h), ?_⟩
  intro g hg
  rcases hat with h | h
  · exact .inl (h ▸ hg)
  · rw [h] at hg
    have := K.size
    simp at hg
    exact .inr (by omega)

set_option maxHeartbeats 1000000 in
set_option maxRecDepth 100000 in
theorem appendCounter_other (B m : Nat) (xs : List Value) (n idx p b q idx' : Nat) (h : At n idx p b) (hq : q < 18446744073709551616) (hne : idx' ≠ idx) (hlen : m ≤ 1048576)
    (v : Value) (w : World) (hown : w.ownsRow B 36 2 v (m + 1) (xs ++ [.int .u64 idx', .int .u64 q])) (hxs : xs.length = m * 2) (hBw : B ≤ w.heap.size) :
    Calls Ybaf.prog 18 #[v, .int .u64 n] w fun e w' => ∃ v', e = .returned v' ∧ w'.ownsRow B 36 2 v' (m + 1 + 1) (xs ++ [.int .u64 idx', .int .u64 q] ++ [.int .u64 idx, .int .u64 b]) ∧ Kept w w' (fun k => v.ownBlock = some k) ∧ Lies w v v' := by
  obtain ⟨i0, hi, hz0, hz1, hz2⟩ := info_parts info36
  rcases hown.2 with ⟨_, h0⟩ | ⟨g, cap, cur, rfl, hBg, hg, hnc, hcm, hcs, htake⟩
  · omega
  have hgw := lt_of_block hg
  have c0 := hown.cellAt (m * 2) (by omega)
  rw [List.getElem?_append_right (by omega), hxs] at c0
  simp only [Nat.sub_self, List.getElem?_cons_zero] at c0
  have HO : Hid (w.ownsRow B 36 2 (.slice (some ⟨g, 0, none⟩) (m + 1) cap) (m + 1) (xs ++ [.int .u64 idx', .int .u64 q])) := hown
  have hbeq : ((idx' : Int) == (idx : Int)) = false := by simp; omega
  clear hown hcs htake
  go_enter Ybaf.func18, Ybaf.ntmps18
  go_wp2_with (go_at_call 29; refine (wordOf_c n idx p b h _).mono ?_; rintro e w1 ⟨rfl, hb1⟩; have d0 := (hb1.cell (p := ⟨g, m * 2, none⟩) hgw).trans c0; have hgs := Nat.lt_of_lt_of_le hgw hb1.size)
  go_quiet (fail)
  go_wp2_with (at_builtin; refine wpList_append_own_at _ rfl _ _ 34 rfl B 36 i0 (.agg #[.int .u64 0, .int .u64 0]) 2 16 Ybaf.underlying34 hi hz0 hz1 hz2 rfl (by decide) _ (m + 1) (xs ++ [.int .u64 idx', .int .u64 q]) rfl ?c0 _ 1 1 [.int .u64 idx, .int .u64 b] rfl rfl ?c1 ?c2 ?c3 ?c4 ?c5 ?_)
  case c0 => exact (kchain hb1 _ _ _).owns HO.out (fun _ _ h => h)
  case c1 => exact cell_new2 _ _ (by simp) _ _ _
  case c2 => intro u hu; simp at hu; rcases hu with rfl | rfl <;> rfl
  case c3 => unfold maxLen; omega
  case c4 => omega
  case c5 => have := hb1.size; simp; omega
  intro v' w2 hown' hgrow _ hat
  have E := new_end (v := (.slice (some ⟨g, 0, none⟩) (m + 1) cap)) (kchain hb1 _ _ _) hgrow _ (by simp) hat
  clear hgrow hat
  go_wp2
  go_ret
  exact ⟨v', rfl, by simpa using hown', E⟩

set_option maxHeartbeats 1000000 in
set_option maxRecDepth 100000 in
theorem appendCounter_first (B : Nat) (n idx p b : Nat) (h : At n idx p b) 
    (a : Option Addr) (c : Nat) (w : World) (hown : w.ownsRow B 36 2 (.slice a 0 c) 0 []) (hBw : B ≤ w.heap.size) :
    Calls Ybaf.prog 18 #[.slice a 0 c, .int .u64 n] w fun e w' => ∃ v', e = .returned v' ∧ w'.ownsRow B 36 2 v' 1 [.int .u64 idx, .int .u64 b] ∧ Kept w w' (fun k => (Value.slice a 0 c).ownBlock = some k) ∧ Lies w (.slice a 0 c) v' := by
  obtain ⟨i0, hi, hz0, hz1, hz2⟩ := info_parts info36
  go_enter Ybaf.func18, Ybaf.ntmps18
  go_wp2_with (go_at_call 29; refine (wordOf_c n idx p b h _).mono ?_; rintro e w1 ⟨rfl, hb1⟩)
  go_quiet (fail)
  go_wp2_with (at_builtin; refine wpList_append_own_at _ rfl _ _ 34 rfl B 36 i0 (.agg #[.int .u64 0, .int .u64 0]) 2 16 Ybaf.underlying34 hi hz0 hz1 hz2 rfl (by decide) _ 0 [] rfl ?c0 _ 1 1 [.int .u64 idx, .int .u64 b] rfl rfl ?c1 ?c2 ?c3 ?c4 ?c5 ?_)
  case c0 => exact (kchain hb1 _ _ _).owns hown (fun _ _ h => h)
  case c1 => exact cell_new2 _ _ (by simp) _ _ _
  case c2 => intro u hu; simp at hu; rcases hu with rfl | rfl <;> rfl
  case c3 => unfold maxLen; omega
  case c4 => omega
  case c5 => have := hb1.size; simp; omega
  intro v' w2 hown' hgrow _ hat
  have E := new_end (v := (.slice a 0 c)) (kchain hb1 _ _ _) hgrow _ (by simp) hat
  clear hgrow hat
  go_wp2
  go_ret
  exact ⟨v', rfl, by simpa using hown', E⟩

/-- appendCounter, whatever the words. -/
theorem appendCounter_any (B : Nat) (ws : List Word) (cs : List Nat) (hg : Good ws cs) (n : Nat) (h1 : 1 ≤ n) (hn : n < 4611686018427387904) (hlen : ws.length ≤ 1048576) (hgt : ∀ c ∈ cs, c < n)
    (v : Value) (w : World) (hown : w.ownsRow B 36 2 v ws.length (wcells ws)) (hBw : B ≤ w.heap.size) :
    Calls Ybaf.prog 18 #[v, .int .u64 n] w fun e w' => ∃ v', e = .returned v' ∧ w'.ownsRow B 36 2 v' (addC ws n).length (wcells (addC ws n)) ∧ Kept w w' (fun k => v.ownBlock = some k) ∧ Lies w v v' := by
  have hat : At n ((n - 1) / 64) ((n - 1) % 64) (2 ^ ((n - 1) % 64)) := ⟨rfl, rfl, rfl, h1, hn⟩
  rcases List.eq_nil_or_concat ws with rfl | ⟨init, ⟨i, ps⟩, rfl⟩
  · rw [addC_nil]
    have hw : wcells [((n - 1) / 64, [(n - 1) % 64])] = [.int .u64 (((n - 1) / 64 : Nat) : Int), .int .u64 ((2 ^ ((n - 1) % 64) : Nat) : Int)] := by
      rw [wcells_one]; simp [val]
    rw [hw]
    rcases hown.2 with ⟨rfl, h0⟩ | ⟨g, cap, cur, rfl, _⟩
    · exact appendCounter_first B n _ _ _ hat _ _ w hown hBw
    · exact appendCounter_first B n _ _ _ hat _ _ w hown hBw
  · rw [List.concat_eq_append] at hg hown hlen ⊢
    obtain ⟨hne, hasc, h64, hi⟩ := hg.nice (i, ps) (by simp)
    have hv := val_lt64 hasc h64
    have hll : (init ++ [(i, ps)]).length = init.length + 1 := by simp
    rw [hll] at hown hlen
    rw [wcells_append, wcells_one] at hown
    by_cases hi' : i = (n - 1) / 64
    · rw [addC_same _ _ _ _ hi']
      have hlt : ∀ q ∈ ps, q < (n - 1) % 64 := by
        intro q hq
        have := hgt (i * 64 + q + 1) (by rw [← hg.eq, listed_append, listed_one]; exact List.mem_append_right _ (List.mem_map.2 ⟨q, hq, rfl⟩))
        have := h64 q hq
        omega
      have e : wcells (init ++ [(i, ps ++ [(n - 1) % 64])]) = wcells init ++ [.int .u64 ((n - 1) / 64 : Nat), .int .u64 ((val ps ||| 2 ^ ((n - 1) % 64) : Nat) : Int)] := by
        rw [wcells_append, wcells_one, val_or hasc hlt, hi']
      rw [e, show (init ++ [(i, ps ++ [(n - 1) % 64])]).length = init.length + 1 by simp]
      refine appendCounter_same B init.length _ n _ _ _ _ hat hv (by omega) v w ?_ (wcells_length _)
      rw [← hi']
      exact hown
    · rw [addC_other _ _ _ _ hi']
      have e : wcells (init ++ [(i, ps)] ++ [((n - 1) / 64, [(n - 1) % 64])]) = wcells init ++ [.int .u64 (i : Int), .int .u64 (val ps : Int)] ++ [.int .u64 (((n - 1) / 64 : Nat) : Int), .int .u64 ((2 ^ ((n - 1) % 64) : Nat) : Int)] := by
        rw [wcells_append, wcells_append, wcells_one, wcells_one]; simp [val]
      rw [e, show (init ++ [(i, ps)] ++ [((n - 1) / 64, [(n - 1) % 64])]).length = init.length + 1 + 1 by simp]
      exact appendCounter_other B init.length _ n _ _ _ _ i hat hv hi' (by omega) v w hown (wcells_length _) hBw
end Go.Proofs.YbulkcqwcFmt

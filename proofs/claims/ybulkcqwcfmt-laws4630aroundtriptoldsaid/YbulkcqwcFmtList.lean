/-
  The contracts of wordList.empty, .count, .at; ClockEntry.last, .bitmapBytes, .singles.
-/
import Derived.Test.YbulkcqwcFmtNorm
import Derived.Deep.RegionWith
namespace Go.Proofs.YbulkcqwcFmt
open Go Go.RowKit
set_option linter.unusedVariables false

theorem bdrewN {B : Nat} {a w : World} (h : Below B a w) (q : Nat) : Below B a (w.drewN q) := ⟨h.os, h.tape, h.output, h.size, h.block⟩

set_option maxHeartbeats 1000000 in
theorem empty_c (b o q : Nat) (w : World) (c : w.cell? ⟨b, o + 2, none⟩ = some (.int .u64 q)) :
    Calls Ybaf.prog 31 #[.pointer (some ⟨b, o, none⟩)] w fun e w' => e = .returned (.bool ((q : Int) == 0)) ∧ w' = w := by
  go_enter Ybaf.func31, Ybaf.ntmps31
  go_wp2
  go_ret
  exact ⟨rfl, rfl⟩

set_option maxHeartbeats 1000000 in
theorem count_c (f : Value) (a : Option Addr) (n cap i q : Nat) (hn : n ≤ 1048576) (hf : f = .slice a n cap) (k : Nat) (hk : k = if q = 0 then 0 else n + 1) (w : World) :
    Calls Ybaf.prog 21 #[.agg #[f, .int .u64 i, .int .u64 q]] w fun e w' => e = .returned (.int .i64 k) ∧ Below w.heap.size w w' := by
  subst hf
  go_enter Ybaf.func21, Ybaf.ntmps21
  go_wp2_with fail
  refine (empty_c w.heap.size 0 q _ ?_).mono ?_
  · simp
  rintro e w1 ⟨rfl, rfl⟩
  go_wp2
  all_goals (go_ret; refine ⟨congrArg Ending.returned (congrArg (Value.int IntKind.i64) ?_), (Below.refl _ w).alloc (Nat.le_refl _) _⟩)
  · rename_i h
    have : q = 0 := by simpa using h
    rw [hk, if_pos this]; rfl
  · rename_i h
    have : q ≠ 0 := by simpa using h
    rw [hk, if_neg this]; rfl

set_option maxHeartbeats 1000000 in
theorem at_front (g n cap i q k ix bx : Nat) (hn : n ≤ 1048576) (hk : k < n) (w : World) (hg : g < w.heap.size) (c0 : w.cell? ⟨g, k * 2, none⟩ = some (.int .u64 ix)) (c1 : w.cell? ⟨g, k * 2 + 1, none⟩ = some (.int .u64 bx)) :
    Calls Ybaf.prog 22 #[.agg #[.slice (some ⟨g, 0, none⟩) n cap, .int .u64 i, .int .u64 q], .int .i64 k] w fun e w' => e = .returned (.agg #[.int .u64 ix, .int .u64 bx]) ∧ Below w.heap.size w w' := by
  go_enter Ybaf.func22, Ybaf.ntmps22
  go_wp2
  refine bodyPost_ret (v := .agg #[.int .u64 ix, .int .u64 bx]) (by simp [results, Ybaf.results22, go_sem]) rfl ⟨rfl, ?_⟩
  exact ((Below.refl _ w).alloc (Nat.le_refl _) _).alloc (by simp) _

set_option maxHeartbeats 1000000 in
theorem at_back (a : Option Addr) (n cap i q : Nat) (hn : n ≤ 1048576) (w : World) :
    Calls Ybaf.prog 22 #[.agg #[.slice a n cap, .int .u64 i, .int .u64 q], .int .i64 n] w fun e w' => e = .returned (.agg #[.int .u64 i, .int .u64 q]) ∧ Below w.heap.size w w' := by
  go_enter Ybaf.func22, Ybaf.ntmps22
  go_wp2
  refine bodyPost_ret (v := .agg #[.int .u64 i, .int .u64 q]) (by simp [results, Ybaf.results22, go_sem]) rfl ⟨rfl, ?_⟩
  exact ((Below.refl _ w).alloc (Nat.le_refl _) _).alloc (by simp) _

/-- The count and the words one by one, of a list that lies as it should. -/
theorem count_ls {w : World} {f : Value} {i q : Nat} {ws : List Word} {cs : List Nat} (h : LsAt w f i q ws) (hg : Good ws cs) :
    Calls Ybaf.prog 21 #[.agg #[f, .int .u64 i, .int .u64 q]] w fun e w' => e = .returned (.int .i64 ws.length) ∧ Below w.heap.size w w' := by
  rcases h with ⟨rfl, rfl, rfl, rfl⟩ | ⟨g, cap, init, ps, rfl, rfl, rfl, hlen, hcap, hgw, hc⟩
  · exact count_c _ none 0 0 0 0 (by omega) rfl 0 rfl w
  ·
    obtain ⟨hne, _, _, _⟩ := hg.nice (i, ps) (by simp)
    refine count_c _ _ init.length cap i (val ps) hlen rfl _ ?_ w
    have : val ps ≠ 0 := by
      cases ps with
      | nil => exact absurd rfl hne
      | cons p ps => exact Nat.ne_of_gt val_pos
    rw [if_neg this]
    simp

theorem at_ls {w : World} {f : Value} {i q : Nat} {ws : List Word} (h : LsAt w f i q ws) (k : Nat) (ix : Nat) (px : List Nat) (hk : ws[k]? = some (ix, px)) :
    Calls Ybaf.prog 22 #[.agg #[f, .int .u64 i, .int .u64 q], .int .i64 k] w fun e w' => e = .returned (.agg #[.int .u64 ix, .int .u64 (val px : Nat)]) ∧ Below w.heap.size w w' := by
  rcases h with ⟨rfl, rfl, rfl, rfl⟩ | ⟨g, cap, init, ps, rfl, rfl, rfl, hlen, hcap, hgw, hc⟩
  · simp at hk
  ·
    by_cases hlt : k < init.length
    · rw [List.getElem?_append_left hlt] at hk
      have hw : ∀ (l : List Word) (k : Nat), l[k]? = some (ix, px) → (wcells l)[k * 2]? = some (.int .u64 ix) ∧ (wcells l)[k * 2 + 1]? = some (.int .u64 (val px : Nat)) := by
        intro l
        induction l with
        | nil => intro k hk; simp at hk
        | cons a t ih =>
          intro k hk
          have e : wcells (a :: t) = .int .u64 a.1 :: .int .u64 (val a.2) :: wcells t := by simp [wcells]
          rw [e]
          cases k with
          | zero => simp at hk; subst hk; exact ⟨rfl, rfl⟩
          | succ k =>
            have := ih k (by simpa using hk)
            rw [show (k + 1) * 2 = k * 2 + 1 + 1 by omega]
            simpa using this
      obtain ⟨a0, a1⟩ := hw init k hk
      exact at_front g _ cap i _ k ix _ hlen hlt w hgw (hc _ _ a0) (hc _ _ a1)
    · rw [List.getElem?_append_right (by omega)] at hk
      have hke : k = init.length := by
        have := (List.getElem?_eq_some_iff.1 hk).1
        simp at this
        omega
      subst hke
      simp at hk
      obtain ⟨rfl, rfl⟩ := hk
      exact at_back _ _ cap i _ hlen w

set_option maxHeartbeats 1000000 in
set_option maxRecDepth 100000 in
theorem last_empty (b U : Nat) (w : World) (c0 : w.cell? ⟨b, 0, none⟩ = some (.int .u64 U)) (c3 : w.cell? ⟨b, 3, none⟩ = some (.int .u64 0)) :
    Calls Ybaf.prog 27 #[.pointer (some ⟨b, 0, none⟩)] w fun e w' => e = .returned (.int .u64 U) ∧ Below w.heap.size w w' := by
  go_enter Ybaf.func27, Ybaf.ntmps27
  go_wp2_with fail
  refine (empty_c b 1 0 _ c3).mono ?_
  rintro e w1 ⟨rfl, rfl⟩
  go_wp2
  go_ret
  exact ⟨rfl, Below.refl _ _⟩

theorem lz64_nat (q l : Nat) (hq : q < 18446744073709551616) (hl : Lib.bitLen q = l) (w : World) :
    Calls Ybaf.prog 32 #[.int .u64 q] w fun e w' => e = .returned (.int .i64 (64 - (l : Int))) ∧ w' = w := by
  refine (lz64 (q : Int) w (by omega) (by omega)).mono ?_
  rintro e w' ⟨rfl, rfl⟩
  rw [show ((q : Int)).toNat = q by omega, hl]
  exact ⟨rfl, rfl⟩

set_option maxHeartbeats 1000000 in
set_option maxRecDepth 100000 in
theorem last_some (b U i q l : Nat) (hi : i < 72057594037927936) (hq : q < 18446744073709551616) (hq0 : 0 < q) (hl : Lib.bitLen q = l) (w : World) (hb : b < w.heap.size) (c2 : w.cell? ⟨b, 2, none⟩ = some (.int .u64 i)) (c3 : w.cell? ⟨b, 3, none⟩ = some (.int .u64 q)) :
    Calls Ybaf.prog 27 #[.pointer (some ⟨b, 0, none⟩)] w fun e w' => e = .returned (.int .u64 (i * 64 + l : Nat)) ∧ Below w.heap.size w w' := by
  have hle := Lib.bitLen_le q 64 (by omega) (by omega)
  rw [hl] at hle
  have hqq : ((q : Int) == 0) = false := by simp; omega
  go_enter Ybaf.func27, Ybaf.ntmps27
  go_wp2_with fail
  refine (empty_c b 1 q _ c3).mono ?_
  rintro e w1 ⟨rfl, rfl⟩
  go_wp2_with fail
  go_quiet ((go_at_call 32; exact Calls.quiet_of_same (lz64_nat q l hq hl _)))
  go_wp2
  go_ret
  refine ⟨congrArg Ending.returned (congrArg (Value.int IntKind.u64) (by omega)), ?_⟩
  exact bdrewN ((Below.refl _ _).alloc (Nat.le_refl _) _) _

theorem last_ls {w : World} {f : Value} {i q : Nat} {ws : List Word} {cs : List Nat} {w0 : World} (h : LsAt w0 f i q ws) (hg : Good ws cs) (b U : Nat) (hb : b < w.heap.size)
    (c0 : w.cell? ⟨b, 0, none⟩ = some (.int .u64 U)) (c2 : w.cell? ⟨b, 2, none⟩ = some (.int .u64 i)) (c3 : w.cell? ⟨b, 3, none⟩ = some (.int .u64 q)) :
    Calls Ybaf.prog 27 #[.pointer (some ⟨b, 0, none⟩)] w fun e w' => e = .returned (.int .u64 (cs.getLast?.getD U : Nat)) ∧ Below w.heap.size w w' := by
  rcases h with ⟨rfl, rfl, rfl, rfl⟩ | ⟨g, cap, init, ps, rfl, rfl, rfl, hlen, hcap, hgw, hc⟩
  · have : cs = [] := hg.eq.symm
    subst this
    exact last_empty b U w c0 c3
  ·
    obtain ⟨hne, hasc, h64, hi⟩ := hg.nice (i, ps) (by simp)
    obtain ⟨pi, pl, hp⟩ := nice_snoc (w := (i, ps)) ⟨hne, hasc, h64, hi⟩
    simp only at hp hi hasc h64
    subst hp
    rw [hg.last, Option.getD_some]
    have hv := val_lt64 hasc h64
    have hbl := bitLen_val hasc (h64 pl (by simp))
    have hpos : 0 < val (pi ++ [pl]) := by
      rw [val_append]
      have := val_pos (p := pl) (ps := [])
      omega
    exact last_some b U i _ (pl + 1) hi hv hpos hbl w hb c2 c3

end Go.Proofs.YbulkcqwcFmt

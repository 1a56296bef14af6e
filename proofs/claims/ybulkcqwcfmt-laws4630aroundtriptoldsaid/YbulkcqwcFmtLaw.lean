/-
  The walk of LawS4630ARoundTrip: it returns true, and of the world nothing old has turned.
-/
import Derived.Test.YbulkcqwcFmtBuild
import Derived.Test.YbulkcqwcFmtSeenB
import Derived.Test.YbulkcqwcFmtSeenG
import Derived.Test.YbulkcqwcFmtAsing
namespace Go.Proofs.YbulkcqwcFmt
open Go Go.RowKit
set_option linter.unusedVariables false

/-- seen, at what build has written, whatever the form. -/
theorem seen_any (D G N cap U slack : Nat) (gs : List Nat) (w : World) (rest : List UInt8) (hd : Dec w D G N cap 0 (lastOf U gs + slack)) (hb : Bytes w G (encOf U gs ++ rest)) (hN : N = (encOf U gs ++ rest).length) (hn : N ≤ 1048576) (hcap : N ≤ cap) (hcm : cap ≤ maxLen)
    (hgs : ∀ g ∈ gs, g < 256) (hk : gs.length ≤ 1024) (hU : U < 4294967296) (hsl : slack < 256) (hT : Tab w) (h0 : 0 < D) (h0G : 0 < G) :
    Calls Ybaf.prog 6 #[.pointer (some ⟨D, 0, none⟩)] w fun e w' => ∃ f i q ws, e = .returned (.agg #[.int .u64 U, f, .int .u64 (i : Nat), .int .u64 (q : Nat)]) ∧ LsAt w' f i q ws ∧ Good ws (cts (U + 1) gs) ∧
      Dec w' D G N cap (encOf U gs).length (lastOf U gs + slack) ∧ Kept w w' (fun k => k = D) := by
  have hend := endc_le gs (U + 1) hgs
  have hge := endc_ge gs (U + 1)
  have hlast : lastOf U gs ≤ U + 1 + 256 * 1024 ∧ U ≤ lastOf U gs := by
    unfold lastOf
    split
    · omega
    · omega
  by_cases hcmp : nbOf U gs < gs.length
  · have hg0 : gs ≠ [] := by
      intro e; subst e; simp [nbOf] at hcmp
    have hpos : 0 < gs.length := List.length_pos_iff.2 hg0
    have eL : lastOf U gs = endc (U + 1) gs := by unfold lastOf; rw [if_neg hg0]
    have eN : nbOf U gs = (endc (U + 1) gs - U - 2) / 8 + 1 := by unfold nbOf; rw [if_neg hg0]
    have eE : encOf U gs = Lib.uvarint U ++ Lib.uvarint (2 * nbOf U gs + 1) ++ bmb (offsOf U gs) (nbOf U gs) := by unfold encOf; rw [if_pos hcmp]
    have hmap : (offsOf U gs).map (fun o => U + 2 + o) = cts (U + 1) gs := by
      unfold offsOf
      rw [List.map_map]
      conv => rhs; rw [← List.map_id (cts (U + 1) gs)]
      apply List.map_congr_left
      intro c hc
      have := cts_mem gs (U + 1) c hc
      simp only [Function.comp, id]
      omega
    have hasc : Asc (offsOf U gs) := by
      unfold offsOf Asc
      rw [List.pairwise_map]
      refine (cts_asc gs (U + 1)).imp_of_mem ?_
      intro a b ha hb hab
      have := cts_mem gs (U + 1) a ha
      omega
    have hmem : ∀ o ∈ offsOf U gs, U + 2 + o ∈ cts (U + 1) gs := fun o ho => by rw [← hmap]; exact List.mem_map.2 ⟨o, ho, rfl⟩
    have hol : (offsOf U gs).length = gs.length := by simp [offsOf, cts_length]
    rw [eE] at hb hN
    have h := seen_bm D G N cap (lastOf U gs + slack) U (nbOf U gs) (offsOf U gs) w rest hd hb hN hn hcap hcm hasc
      (fun o ho => by have := cts_mem _ _ _ (hmem o ho); omega) (by omega) (by omega) (by
        intro e
        have hl : endc (U + 1) gs - U - 2 ∈ offsOf U gs := by
          unfold offsOf
          refine List.mem_map.2 ⟨endc (U + 1) gs, ?_, rfl⟩
          exact List.mem_of_getLast? (cts_last gs (U + 1) hg0)
        have : (endc (U + 1) gs - U - 2) % 8 ∈ plc (offsOf U gs) (nbOf U gs - 1) := by
          unfold plc
          refine List.mem_map.2 ⟨_, List.mem_filter.2 ⟨hl, ?_⟩, rfl⟩
          rw [beq_iff_eq]; omega
        rw [e] at this
        simp at this) (by omega) hU (by omega) (fun o ho => by have := cts_mem _ _ _ (hmem o ho); omega) (by omega) hT h0 h0G (endc (U + 1) gs)
      (by rw [hmap, cts_last gs _ hg0]; rfl) (by omega) eN (by omega) (by omega)
    refine h.mono ?_
    rintro e w' ⟨f, i, q, ws, rfl, h1, h2, h3, h4⟩
    rw [hmap] at h2
    refine ⟨f, i, q, ws, rfl, h1, h2, ?_, h4⟩
    rw [eE]
    have : (bmb (offsOf U gs) (nbOf U gs)).length = nbOf U gs := by simp [bmb]
    rw [List.length_append, List.length_append, this]
    exact h3
  · have eE : encOf U gs = Lib.uvarint U ++ Lib.uvarint (2 * gs.length) ++ gb gs := by unfold encOf; rw [if_neg hcmp]
    rw [eE] at hb hN
    have h := seen_gaps D G N cap (lastOf U gs + slack) U (nbOf U gs) gs w rest hd hb hN hn hcap hcm hgs hk hU (by omega)
      (fun hg0 => by have : lastOf U gs = endc (U + 1) gs := by unfold lastOf; rw [if_neg hg0]
                     omega) (by omega) hT h0 h0G (by
        by_cases hg0 : gs = []
        · exact .inl ⟨hg0, by unfold nbOf; rw [if_pos hg0]⟩
        · exact .inr ⟨hg0, by unfold nbOf; rw [if_neg hg0]⟩) (by omega)
    refine h.mono ?_
    rintro e w' ⟨f, i, q, ws, rfl, h1, h2, h3, h4⟩
    refine ⟨f, i, q, ws, rfl, h1, h2, ?_, h4⟩
    rw [eE, List.length_append, List.length_append]
    exact h3
end Go.Proofs.YbulkcqwcFmt

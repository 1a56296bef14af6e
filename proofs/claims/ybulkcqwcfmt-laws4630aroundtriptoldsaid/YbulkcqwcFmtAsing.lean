/-
  The contract of zzs4630asingles.
-/
import Derived.Test.YbulkcqwcFmtSing
import Derived.Test.YbulkcqwcFmtSteps
namespace Go.Proofs.YbulkcqwcFmt
open Go Go.RowKit
set_option linter.unusedVariables false

theorem info25 : (Ybaf.prog.info? 25).map (fun i => (i.zero, i.size, i.bytes)) = some (some (.int .u64 0), 1, 8) := by kernel_rfl

def nums (cs : List Nat) : List Value := cs.map fun c => .int .u64 (c : Nat)
theorem nums_append (a b : List Nat) : nums (a ++ b) = nums a ++ nums b := by simp [nums]
theorem nums_length (a : List Nat) : (nums a).length = a.length := by simp [nums]

theorem tz_val (p : Nat) (ps : List Nat) (ha : Asc (p :: ps)) (h64 : ∀ q ∈ p :: ps, q < 64) (w : World) (hT : Tab w) :
    Calls Ybaf.prog 23 #[.int .u64 (val (p :: ps) : Nat)] w fun e w' => e = .returned (.int .i64 p) ∧ w' = w := by
  have hv := val_lt64 ha h64
  have := tz64 (val (p :: ps)) hv (Nat.ne_of_gt val_pos) w hT
  rwa [ctz_val ha hv] at this

set_option maxHeartbeats 4000000 in
set_option maxRecDepth 100000 in
theorem asingles_ls {w : World} {f : Value} {i q : Nat} {ws : List Word} {cs : List Nat} (h : LsAt w f i q ws) (hg : Good ws cs) (U : Nat) (hf : ∃ a n c, f = .slice a n c) (hl : cs.length ≤ 1048576) (hT : Tab w) (h0 : 0 < w.heap.size) :
    Calls Ybaf.prog 8 #[.agg #[.int .u64 U, f, .int .u64 i, .int .u64 q]] w fun e w' => ∃ v', e = .returned v' ∧ w'.ownsRow w.heap.size 25 1 v' cs.length (nums cs) ∧ Below w.heap.size w w' := by
  obtain ⟨a, n, c, rfl⟩ := hf
  obtain ⟨i0, hi, hz0, hz1, hz2⟩ := info_parts info25
  go_enter Ybaf.func8, Ybaf.ntmps8
  go_wp2_with fail
  refine (count_ls (w := w.alloc _) (h.below ((Below.refl _ w).alloc (Nat.le_refl _) _)) hg).mono ?_
  rintro e w1 ⟨rfl, hb1⟩
  have hs1 : w.heap.size < w1.heap.size := Nat.lt_of_lt_of_le (by simp) hb1.size
  have hwl := hg.len
  have HB : Hid (Below w.heap.size w w1) := ((Below.refl _ w).alloc (Nat.le_refl _) _).trans (hb1.mono (by simp))
  have H1 : Hid (LsAt w1 (.slice a n c) i q ws) := (h.below ((Below.refl _ w).alloc (Nat.le_refl _) _)).below hb1
  have b1 : w1.cell? ⟨w.heap.size, 1, none⟩ = some (.slice a n c) := (hb1.cell (p := ⟨w.heap.size, 1, none⟩) (by simp)).trans (by simp)
  have b2 : w1.cell? ⟨w.heap.size, 2, none⟩ = some (.int .u64 i) := (hb1.cell (p := ⟨w.heap.size, 2, none⟩) (by simp)).trans (by simp)
  have b3 : w1.cell? ⟨w.heap.size, 3, none⟩ = some (.int .u64 q) := (hb1.cell (p := ⟨w.heap.size, 3, none⟩) (by simp)).trans (by simp)
  have hT1 : Tab w1 := hT.below HB.out h0
  clear hb1
  go_wp2
  go_loopw [3, 5] (fun v3 v5 wr => ∃ k : Nat, v5 = .int .i64 k ∧ k ≤ ws.length ∧ wr.ownsRow w1.heap.size 25 1 v3 (listed (ws.take k)).length (nums (listed (ws.take k))) ∧ Below w1.heap.size w1 wr)
    (fun _ v5 _ => ws.length - (intOf v5).toNat)
  case atStart => exact ⟨0, rfl, by omega, World.ownsRow_nil _ _ _ _, Below.refl _ _⟩
  case round =>
    obtain ⟨k, rfl, hk, hown, hbr⟩ := hrel
    have d1 := (hbr.cell (p := ⟨w.heap.size, 1, none⟩) hs1).trans b1
    have d2 := (hbr.cell (p := ⟨w.heap.size, 2, none⟩) hs1).trans b2
    have d3 := (hbr.cell (p := ⟨w.heap.size, 3, none⟩) hs1).trans b3
    by_cases hlt : k < ws.length
    · obtain ⟨⟨ix, px⟩, hx⟩ : ∃ x, ws[k]? = some x := ⟨_, List.getElem?_eq_getElem hlt⟩
      obtain ⟨hpn, hpa, hp64, hix⟩ := hg.nice (ix, px) (List.mem_of_getElem? hx)
      go_wp2_with fail
      refine (at_ls (H1.out.below hbr) k ix px hx).mono ?_
      rintro e w2 ⟨rfl, hb2⟩
      go_wp2
      have hT2 : Tab w2 := hT1.below (hbr.trans (hb2.mono hbr.size)) (by omega)
      have hB2 : Hid (Below w1.heap.size w1 w2) := hbr.trans (hb2.mono hbr.size)
      have hs2 : w1.heap.size ≤ w2.heap.size := hB2.out.size
      have hlt3 := hown.lt
      have hsr := hb2.size
      have hO : Hid (w2.ownsRow w1.heap.size 25 1 u3 (listed (ws.take k)).length (nums (listed (ws.take k)))) := (Kept.ofBelow hb2 (fun _ => False)).owns hown (fun _ _ h => h)
      have hlst : listed (ws.take (k + 1)) = listed (ws.take k) ++ px.map fun p => ix * 64 + p + 1 := by
        obtain ⟨hk', he⟩ := List.getElem?_eq_some_iff.1 hx
        rw [List.take_succ_eq_append_getElem hk', he, listed_append, listed_one]
      clear hown d1 d2 d3 hbr hb2
      go_loopw [3, 7] (fun v3 v7 wr => ∃ done rest, px = done ++ rest ∧ v7 = .int .u64 (val rest : Nat) ∧ wr.ownsRow w1.heap.size 25 1 v3 (listed (ws.take k) ++ done.map fun p => ix * 64 + p + 1).length (nums (listed (ws.take k) ++ done.map fun p => ix * 64 + p + 1)) ∧ Below w1.heap.size w1 wr ∧
          wr.cell? ⟨w2.heap.size, 0, none⟩ = some (.int .u64 ix) ∧ (∀ g, v3.ownBlock = some g → g ≠ w2.heap.size) ∧ w2.heap.size < wr.heap.size)
        (fun _ v7 _ => (intOf v7).toNat)
      case atStart =>
        refine ⟨[], px, rfl, rfl, ?_, hB2.out.alloc hs2 _, by simp, fun g hg => ?_, by simp⟩
        · simpa using hO.out.alloc _
        · have := hlt3 g hg; omega
      case round =>
        obtain ⟨done, rest, hpx, rfl, hown3, hbr3, hcw, hnb, hsz3⟩ := hrel
        cases rest with
        | nil =>
          have hdn : done = px := by rw [hpx]; simp
          subst hdn
          rw [← hlst] at hown3
          go_wp2
          exact ⟨⟨k + 1, rfl, by omega, hown3, hbr3⟩, by simp [intOf]; omega⟩
        | cons p ps =>
          have hpa' : Asc (p :: ps) := by rw [hpx] at hpa; exact (List.pairwise_append.1 hpa).2.1
          have hp64' : ∀ q ∈ p :: ps, q < 64 := fun q hq => hp64 q (by rw [hpx]; exact List.mem_append_right _ hq)
          have hp := hp64' p (by simp)
          have htz := fun W (hW : Tab W) => tz_val p ps hpa' hp64' W hW
          have hv := val_lt64 hpa' hp64'
          have hpos : 0 < val (p :: ps) := val_pos
          have hand : bits .and .u64 (val (p :: ps) : Int) ((val (p :: ps) : Int) - 1) = (val ps : Int) := by
            rw [show ((val (p :: ps) : Int) - 1) = ((val (p :: ps) - 1 : Nat) : Int) by omega, u64_and_nat _ _ hv (by omega), val_and_pred hpa']
          have hdec : val ps < val (p :: ps) := by
            have : 0 < 2 ^ p := Nat.pos_of_ne_zero (by simp)
            simp only [val]; omega
          have hT3 : Tab wr := hT1.below hbr3 (by omega)
          have hll : (listed (ws.take k) ++ done.map fun p => ix * 64 + p + 1).length < 1048576 := by
            have h1 : (listed (ws.take (k + 1))).length ≤ cs.length := by
              rw [← hg.eq]
              conv => rhs; rw [← List.take_append_drop (k + 1) ws, listed_append, List.length_append]
              omega
            rw [hlst, hpx] at h1
            simp at h1 ⊢
            omega
          have HPX : Hid (px = done ++ p :: ps) := hpx
          clear hpx
          generalize val (p :: ps) = V at *
          generalize hV' : val ps = V' at *
          have hV : ((V : Int) != 0) = true := by simp; omega
          go_wp2
          go_region_law (first
            | (refine step_append_own rfl (.tmp 24) (.tmp 33) 24 rfl w1.heap.size 25 i0 (.int .u64 0) 1 8 Ybaf.underlying24 hi hz0 hz1 hz2 rfl (by decide) u3 _ _ (by simp [Act.eval]) (hown3.drew.alloc _) ⟨wr.heap.size, 0, none⟩ 1 1 [.int .u64 (IntKind.u64.wrap (IntKind.u64.wrap (IntKind.u64.wrap ((ix : Int) * 64) + IntKind.u64.wrap (p : Int)) + 1))] (by simp [Act.eval]) rfl (cell_one_new _ _ _) (by intro u hu; simp at hu; subst hu; rfl) (by unfold maxLen; omega) (by omega) (by simp; omega) (fun v' w' r1 r2 r3 => ?_))
            | (go_simp; go_wp2_with (go_at_call 23; refine Calls.mono (htz _ (by exact hT3)) ?_; rintro e w' ⟨rfl, rfl⟩)))
          all_goals
            have hnum : IntKind.u64.wrap (IntKind.u64.wrap (IntKind.u64.wrap ((ix : Int) * 64) + IntKind.u64.wrap (p : Int)) + 1) = ((ix * 64 + p + 1 : Nat) : Int) := by
              rw [IntKind.wrap_u64, IntKind.wrap_u64, IntKind.wrap_u64, IntKind.wrap_u64]; omega
            rw [hnum] at r1
            have hlt := hown3.lt
            have R : Hid (w'.ownsRow w1.heap.size 25 1 v' (listed (ws.take k) ++ (done ++ [p]).map fun p => ix * 64 + p + 1).length (nums (listed (ws.take k) ++ (done ++ [p]).map fun p => ix * 64 + p + 1)) ∧ Below w1.heap.size w1 w' ∧
                w'.cell? ⟨w2.heap.size, 0, none⟩ = some (.int .u64 ix) ∧ (∀ g, v'.ownBlock = some g → g ≠ w2.heap.size) ∧ w2.heap.size < w'.heap.size) := by
              refine ⟨?_, ?_, ?_, ?_, ?_⟩
              · have e : nums (listed (ws.take k) ++ (done ++ [p]).map fun p => ix * 64 + p + 1) = nums (listed (ws.take k) ++ done.map fun p => ix * 64 + p + 1) ++ [.int .u64 ((ix * 64 + p + 1 : Nat) : Int)] := by
                  rw [List.map_append, ← List.append_assoc, nums_append]; rfl
                have e2 : (listed (ws.take k) ++ (done ++ [p]).map fun p => ix * 64 + p + 1).length = (listed (ws.take k) ++ done.map fun p => ix * 64 + p + 1).length + 1 := by
                  simp; omega
                rw [e, e2]
                exact r1
              · exact (hbr3.drew.alloc (by simp; omega) _).grown r2 (by simp; omega) (fun k hk => (hlt k hk).1)
              · exact r2.cell ((World.cell?_of_block (w := wr) (a := ⟨w2.heap.size, 0, none⟩) (Below.heap_alloc wr.drew _ _ hsz3)).trans hcw) (fun e => hnb _ e.symm rfl)
              · intro g hg
                rcases r3 with r3 | r3
                · exact hnb g (r3 ▸ hg)
                · rw [r3] at hg; simp at hg; omega
              · have := r2.size; simp at this; omega
            clear r1 r2 r3
            go_wp2_with (simp only [hand])
            go_roundw
            case rel => exact ⟨done ++ [p], ps, by rw [HPX.out]; simp, by rw [hV'], R.out⟩
            case measure => simp [intOf]; omega
    · have hke : k = ws.length := by omega
      subst hke
      rw [List.take_length, hg.eq] at hown
      go_wp2
      go_ret
      exact ⟨_, rfl, ownsRow_mono hown (Nat.le_of_lt hs1), HB.out.trans (hbr.mono (Nat.le_of_lt hs1))⟩
end Go.Proofs.YbulkcqwcFmt

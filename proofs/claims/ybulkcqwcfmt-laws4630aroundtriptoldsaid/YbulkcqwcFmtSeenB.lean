/-
  The contract of the decoder's seen, at the form of a bitmap.
-/
import Derived.Test.YbulkcqwcFmtSeenG
import Derived.Test.YbulkcqwcFmtBm
namespace Go.Proofs.YbulkcqwcFmt
open Go Go.RowKit
set_option linter.unusedVariables false

theorem tz8_tab : ∀ n : Fin 256, n.val ≠ 0 → Lib.trailingZeros8 n.val = Lib.ctz 8 n.val := by decide +kernel
theorem tz8_val (p : Nat) (ps : List Nat) (ha : Asc (p :: ps)) (h8 : ∀ q ∈ p :: ps, q < 8) (w : World) :
    Calls Ybaf.prog 17 #[.int .u8 (val (p :: ps) : Nat)] w fun e w' => e = .returned (.int .i64 p) ∧ w' = w := by
  have hv := val_lt8 ha h8
  have h := tz8_raw (val (p :: ps) : Int) w (by omega) (by omega)
  have e : (Lib.trailingZeros8 ((val (p :: ps) : Int)).toNat) = p := by
    rw [Int.toNat_natCast, tz8_tab ⟨val (p :: ps), hv⟩ (Nat.ne_of_gt val_pos), ctz_val ha hv]
  rw [e] at h
  exact h

set_option maxHeartbeats 8000000 in
set_option maxRecDepth 100000 in
theorem seen_bm (D G N cap last U nb : Nat) (O : List Nat) (w : World) (rest : List UInt8) (hd : Dec w D G N cap 0 last) (hb : Bytes w G (Lib.uvarint U ++ Lib.uvarint (2 * nb + 1) ++ bmb O nb ++ rest)) (hN : N = (Lib.uvarint U ++ Lib.uvarint (2 * nb + 1) ++ bmb O nb ++ rest).length) (hn : N ≤ 1048576) (hcap : N ≤ cap) (hcm : cap ≤ maxLen)
    (hO : Asc O) (hall : ∀ o ∈ O, o / 8 < nb) (hnb1 : 1 ≤ nb) (hnb2 : nb ≤ 1024) (hfull : plc O (nb - 1) ≠ []) (hlen : O.length ≤ 1024) (hU : U < 4294967296) (hUl : U ≤ last) (hl : ∀ o ∈ O, U + 2 + o ≤ last) (hl' : last < 4611686018427387904) (hT : Tab w) (h0 : 0 < D) (h0G : 0 < G)
    (L : Nat) (hL : (O.map fun o => U + 2 + o).getLast?.getD U = L) (hL2 : U + 2 ≤ L) (hL3 : nb = (L - U - 2) / 8 + 1) (hL4 : L < 4611686018427387904) (hnk : nb < O.length) :
    Calls Ybaf.prog 6 #[.pointer (some ⟨D, 0, none⟩)] w fun e w' => ∃ f i q ws, e = .returned (.agg #[.int .u64 U, f, .int .u64 (i : Nat), .int .u64 (q : Nat)]) ∧ LsAt w' f i q ws ∧ Good ws (O.map fun o => U + 2 + o) ∧
      Dec w' D G N cap ((Lib.uvarint U).length + (Lib.uvarint (2 * nb + 1)).length + nb) last ∧ Kept w w' (fun k => k = D) := by
  have hds := hd.size
  have HLL : Hid ((O.map fun o => U + 2 + o).getLast?.getD U = L ∧ U + 2 ≤ L ∧ nb = (L - U - 2) / 8 + 1 ∧ L < 4611686018427387904) := ⟨hL, hL2, hL3, hL4⟩
  clear hL hL2 hL3 hL4
  go_enter Ybaf.func6, Ybaf.ntmps6
  go_wp2_with fail
  have hK0 : Hid (Kept w (w.alloc (.cells #[.int .u64 0, .slice none 0 0, .int .u64 0, .int .u64 0] 40)) (fun k => k = D)) := Kept.alloc _ _ _
  have hd1 : Dec (w.alloc (.cells #[.int .u64 0, .slice none 0 0, .int .u64 0, .int .u64 0] 40)) D G N cap 0 last := hd.kept (Kept.alloc _ _ (fun _ => False)) (fun h => h)
  have hb1 : Bytes (w.alloc (.cells #[.int .u64 0, .slice none 0 0, .int .u64 0, .int .u64 0] 40)) G (Lib.uvarint U ++ Lib.uvarint (2 * nb + 1) ++ bmb O nb ++ rest) := hb.kept (Kept.alloc _ _ (fun _ => False)) hd.lt (fun h => h)
  have hx1 : Hid ((w.alloc (.cells #[.int .u64 0, .slice none 0 0, .int .u64 0, .int .u64 0] 40)).heap[w.heap.size]? = some (.cells #[.int .u64 0, .slice none 0 0, .int .u64 0, .int .u64 0] 40 (0, 0))) := heap_alloc_new _ _
  have hsz : (w.alloc (.cells #[.int .u64 0, .slice none 0 0, .int .u64 0, .int .u64 0] 40)).heap.size = w.heap.size + 1 := by simp
  generalize w.alloc (.cells #[.int .u64 0, .slice none 0 0, .int .u64 0, .int .u64 0] 40) = w1 at *
  refine (counter_c D G N cap 0 last U w1 [] (Lib.uvarint (2 * nb + 1) ++ bmb O nb ++ rest) hd1 (by simpa using hb1) (by rw [hN]; simp) rfl (by omega) hn hcap hcm hUl hl').mono ?_
  rintro e w2 ⟨rfl, hd2, hk2⟩
  go_wp2_with fail
  have hb2 := hb1.kept hk2 hd1.lt (fun h => hd1.ne h)
  refine (uvarint_c D G N cap _ last (2 * nb + 1) w2 (Lib.uvarint U) (bmb O nb ++ rest) hd2 (by simpa using hb2) (by rw [hN]; simp) (by simp) (by omega) hn hcap hcm).mono ?_
  rintro e w3 ⟨rfl, hd3, hk3⟩
  have hb3 := hb2.kept hk3 hd2.lt (fun h => hd2.ne h)
  have hq2 : (2 * (nb : Int) + 1) / 2 = (nb : Int) := by omega
  have hm2 : (2 * (nb : Int) + 1) % 2 = 1 := by omega
  go_wp2_with fail
  have hNl := hN
  simp only [List.length_append] at hNl
  have hbml : (bmb O nb).length = nb := by simp [bmb]
  refine (within_c D G N cap _ last nb w3 hd3 (by omega) hn).mono ?_
  rintro e w4 ⟨rfl, hb4⟩
  have hd4 := hd3.kept (Kept.ofBelow hb4 (fun _ => False)) (fun h => h)
  have hbb4 := hb3.kept (Kept.ofBelow hb4 (fun _ => False)) hd3.lt (fun h => h)
  have hk14 : Kept w1 w4 (fun k => k = D) := (hk2.trans hk3 (fun _ _ h => h)).trans (Kept.ofBelow hb4 (fun _ => False)) (fun _ _ h => h.elim)
  have hT4 : Tab w4 := (hT.kept hK0.out (by omega) (by omega)).kept hk14 (by omega) (by omega)
  have hs14 := hk14.size
  simp only [Nat.zero_add] at hd4
  generalize hoff : (Lib.uvarint U).length + (Lib.uvarint (2 * nb + 1)).length = off at *
  have hoN : off + nb ≤ N := by omega
  obtain ⟨e0, e1, e2, e3, ef⟩ := hd4.cells
  have hby : ∀ k, k < nb → w4.cell? ⟨G, off + k, none⟩ = some (.int .u8 (val (plc O k) : Nat)) := by
    intro k hk
    have := hbb4 (off + k) (by simp; omega)
    rw [this, List.getElem_append_left (by simp; omega), List.getElem_append_right (by simp; omega)]
    have hlt := val_lt8 (plc_asc O k hO) (plc_lt O k)
    have hi : off + k - (Lib.uvarint U ++ Lib.uvarint (2 * nb + 1)).length = k := by simp; omega
    simp only [hi, bmb, List.getElem_map, List.getElem_range]
    simp
    omega
  have HD4 : Hid (Dec w4 D G N cap off last) := hd4
  have HOFF : Hid ((Lib.uvarint U).length + (Lib.uvarint (2 * nb + 1)).length = off) := hoff
  have HB : Hid (∀ k, k < nb → w4.cell? ⟨G, off + k, none⟩ = some (.int .u8 (val (plc O k) : Nat))) := hby
  have HK : Hid (Kept w1 w4 (fun k => k = D)) := hk14
  have hGD := hd4.ne
  have hG4 := hd4.lt
  have hco : ¬ cap = off := by omega
  have hon : (off : Int) ≤ (off : Int) + (nb : Int) := by omega
  have hon2 : (off : Int) + (nb : Int) ≤ (cap : Int) := by omega
  clear hd1 hb1 hd2 hk2 hb2 hd3 hk3 hb3 hd4 hbb4 hk14 hb4 hd hb hN hNl hT hby hoff
  go_wp2_with fail
  go_quiet (fail)
  go_wp2_with fail
  simp only [Nat.add_sub_cancel_left, hm2]
  clear hm2 hq2
  go_loopw [8, 69] (fun v8 v69 wr => ∃ (k : Nat) (ws : List Word), v69 = .int .i64 k ∧ k ≤ nb ∧ wr.ownsRow w4.heap.size 36 2 v8 ws.length (wcells ws) ∧ Good ws ((offs O k).map fun o => U + 2 + o) ∧ Dec wr D G N cap (off + nb) last ∧ Kept w4 wr (fun k => k = D))
    (fun _ v69 _ => nb - (intOf v69).toNat)
  case atStart =>
    have M := fun q => HD4.out.moved' (Kept.drewN w4 q _) (off + nb) ((off : Int) + (nb : Int)) (by omega)
    exact ⟨0, [], rfl, Nat.zero_le _, World.ownsRow_nil _ _ _ _, by simpa [offs] using Good.nil, (M _).1, (M _).2⟩
  case round =>
    obtain ⟨k, ws, rfl, hk, hown, hgood, hdr, hkr⟩ := hrel
    have hks := hkr.size
    have hT5 : Tab wr := hT4.kept hkr (by omega) (by omega)
    by_cases hlt : k < nb
    · have c0 : wr.cell? ⟨G, off + k, none⟩ = some (.int .u8 (val (plc O k) : Nat)) := (World.cell?_of_block (w := w4) (a := ⟨G, off + k, none⟩) (hkr.block G hG4 (fun h => hGD h))).trans (HB.out k hlt)
      have hv8 := val_lt8 (plc_asc O k hO) (plc_lt O k)
      go_wp2_with fail
      have HG : Hid (Good ws ((offs O k).map fun o => U + 2 + o)) := hgood
      have HO : Hid (wr.ownsRow w4.heap.size 36 2 u8 ws.length (wcells ws)) := hown
      have HDr : Hid (Dec wr D G N cap (off + nb) last) := hdr
      have HKr : Hid (Kept w4 wr (fun k => k = D)) := hkr
      clear hgood hown hdr hkr hks hT5
      go_loopw [8, 10] (fun v8 v10 wx => ∃ (done rest : List Nat) (ws' : List Word), plc O k = done ++ rest ∧ v10 = .int .u8 (val rest : Nat) ∧ wx.ownsRow w4.heap.size 36 2 v8 ws'.length (wcells ws') ∧ Good ws' ((offs O k ++ done.map fun p => 8 * k + p).map fun o => U + 2 + o) ∧ Dec wx D G N cap (off + nb) last ∧ Kept w4 wx (fun k => k = D))
        (fun _ v10 _ => (intOf v10).toNat)
      case atStart => exact ⟨[], plc O k, ws, rfl, rfl, HO.out, by simpa using HG.out, HDr.out, HKr.out⟩
      case round =>
        obtain ⟨done, rest, ws', hsplit, rfl, hown, hgood, hdr, hkr⟩ := hrel
        have hks := hkr.size
        obtain ⟨_, _, _, e3', _⟩ := hdr.cells
        cases rest with
        | nil =>
          have hdn : plc O k = done := by rw [hsplit]; simp
          have HG' : Hid (Good ws' ((offs O (k + 1)).map fun o => U + 2 + o)) := by rw [offs_succ, hdn]; exact hgood
          clear hsplit hgood hdn
          go_wp2
          exact ⟨⟨k + 1, ws', rfl, by omega, hown, HG'.out, hdr, hkr⟩, by simp [intOf]; omega⟩
        | cons p ps =>
          have hpa : Asc (p :: ps) := by have := plc_asc O k hO; rw [hsplit] at this; exact (List.pairwise_append.1 this).2.1
          have hp8 : ∀ q ∈ p :: ps, q < 8 := fun q hq => plc_lt O k q (by rw [hsplit]; exact List.mem_append_right _ hq)
          have hp := hp8 p (by simp)
          have htz := fun W => tz8_val p ps hpa hp8 W
          have hv := val_lt8 hpa hp8
          have hpos : 0 < val (p :: ps) := val_pos
          have hand : bits .and .u8 (val (p :: ps) : Int) ((val (p :: ps) : Int) - 1) = (val ps : Int) := by
            rw [show ((val (p :: ps) : Int) - 1) = ((val (p :: ps) - 1 : Nat) : Int) by omega, u8_and_nat _ _ hv (by omega), val_and_pred hpa]
          have hdec : val ps < val (p :: ps) := by
            have : 0 < 2 ^ p := Nat.pos_of_ne_zero (by simp)
            simp only [val]; omega
          have hmem : ∀ q ∈ plc O k, 8 * k + q ∈ O := by
            intro q hq
            have : 8 * k + q ∈ offs O nb := by
              unfold offs
              exact List.mem_flatMap.2 ⟨k, by simpa using hlt, List.mem_map.2 ⟨q, hq, rfl⟩⟩
            rwa [offs_all O hO nb hall] at this
          have hin : 8 * k + p ∈ O := hmem p (by rw [hsplit]; simp)
          have hcl := hl _ hin
          have hgt : ∀ c ∈ (offs O k ++ done.map fun p => 8 * k + p).map (fun o => U + 2 + o), c < U + 2 + (8 * k + p) := by
            intro c hc
            obtain ⟨o, ho, rfl⟩ := List.mem_map.1 hc
            rcases List.mem_append.1 ho with ho | ho
            · rw [offs_eq O hO k] at ho
              have := (List.mem_filter.1 ho).2
              simp at this
              omega
            · obtain ⟨x, hx, rfl⟩ := List.mem_map.1 ho
              have hasc := plc_asc O k hO
              rw [hsplit] at hasc
              have := (List.pairwise_append.1 hasc).2.2 x hx p (by simp)
              omega
          have hwl := hgood.len
          have hle : ((offs O k ++ done.map fun p => 8 * k + p).map fun o => U + 2 + o).length ≤ 1048576 := by
            have h1 : (offs O (k + 1)).length ≤ O.length := by rw [offs_eq O hO]; exact List.length_filter_le _ _
            rw [offs_succ, hsplit] at h1
            simp at h1 ⊢
            omega
          have HS : Hid (plc O k = done ++ p :: ps) := hsplit
          have hlt8 := hown.lt
          clear hsplit
          generalize val (p :: ps) = V at *
          generalize hV' : val ps = V' at *
          have hVn : ((V : Int) != 0) = true := by simp; omega
          go_wp2_with fail
          refine Calls.mono (htz _) ?_
          rintro e w6 ⟨rfl, rfl⟩
          go_wp2_with fail
          rw [show ((U : Int) + 2 + 8 * (k : Int) + (p : Int)) = ((U + 2 + (8 * k + p) : Nat) : Int) by omega]
          refine (written_c D G N cap _ last (U + 2 + (8 * k + p)) _ hdr hcl hl').mono ?_
          rintro e w7 ⟨rfl, rfl⟩
          go_wp2_with fail
          refine (appendCounter_any w4.heap.size ws' _ hgood (U + 2 + (8 * k + p)) (by omega) (by omega) (by omega) hgt u8 _ hown (by omega)).mono ?_
          rintro e w8 ⟨v', rfl, hown8, hk8, hl8⟩
          have R : Hid (w8.ownsRow w4.heap.size 36 2 v' (addC ws' (U + 2 + (8 * k + p))).length (wcells (addC ws' (U + 2 + (8 * k + p)))) ∧ Good (addC ws' (U + 2 + (8 * k + p))) ((offs O k ++ (done ++ [p]).map fun p => 8 * k + p).map fun o => U + 2 + o) ∧
              Dec w8 D G N cap (off + nb) last ∧ Kept w4 w8 (fun k => k = D)) := by
            have hDs : D < w4.heap.size := HD4.out.size
            refine ⟨hown8, ?_, hdr.kept hk8 (fun e => by have := hlt8 D e; omega), hkr.trans hk8 (fun i hi e => by have := hlt8 i e; omega)⟩
            have := hgood.step _ (by omega) (by omega) hgt
            simpa using this
          clear hown8 hk8 hl8
          go_wp2
          refine ⟨⟨done ++ [p], ps, addC ws' (U + 2 + (8 * k + p)), by rw [HS.out]; simp, ?_, R.out⟩, ?_⟩
          · rw [hV']
          · simp [intOf]; omega
    · have hke : k = nb := by omega
      have hg2 : Good ws (O.map fun o => U + 2 + o) := by rw [hke, offs_all O hO nb hall] at hgood; exact hgood
      have hwl := hg2.len
      simp only [List.length_map] at hwl
      have hDs := HD4.out.size
      have HR : Hid (wr.heap[w.heap.size]? = some (.cells #[.int .u64 0, .slice none 0 0, .int .u64 0, .int .u64 0] 40 (0, 0))) :=
        (hkr.block _ (by omega) (by omega)).trans ((HK.out.block _ (by omega) (by omega)).trans hx1.out)
      have hlast : ∃ b : Nat, b ≠ 0 ∧ wr.cell? ⟨G, off + (nb - 1), none⟩ = some (.int .u8 b) := by
        refine ⟨val (plc O (nb - 1)), ?_, (World.cell?_of_block (w := w4) (a := ⟨G, off + (nb - 1), none⟩) (hkr.block G hG4 (fun h => hGD h))).trans (HB.out (nb - 1) (by omega))⟩
        cases h : plc O (nb - 1) with
        | nil => exact absurd h hfull
        | cons p ps => exact Nat.ne_of_gt val_pos
      have HW : Hid (wr.ownsRow w4.heap.size 36 2 u8 ws.length (wcells ws)) := hown
      have HDr : Hid (Dec wr D G N cap (off + nb) last) := hdr
      have HKr : Hid (Kept w4 wr (fun k => k = D)) := hkr
      obtain ⟨_, _, _, e3', _⟩ := hdr.cells
      have hkn : ¬ ((k : Int) < (nb : Int)) := by omega
      clear hgood hown hdr hkr
      go_wp2_with fail
      refine (normalised_any w4.heap.size U (by omega) ws _ hg2 (fun c hc => by obtain ⟨o, _, rfl⟩ := List.mem_map.1 hc; omega) (by omega) _ wr HW.out hT5 (by omega)).mono ?_
      rintro e w5 ⟨f, i, q, rfl, hls, hb5, hfb⟩
      obtain ⟨a, n, c, rfl⟩ := hls.form
      have hd5 := HDr.out.kept (Kept.ofBelow hb5 (fun _ => False)) (fun h => h)
      obtain ⟨_, _, _, e35, _⟩ := hd5.cells
      obtain ⟨b, hbn, hcb⟩ := hlast
      have cb5 : w5.cell? ⟨G, off + (nb - 1), none⟩ = some (.int .u8 b) := (hb5.cell (p := ⟨G, off + (nb - 1), none⟩) (by show G < wr.heap.size; have := HKr.out.size; omega)).trans hcb
      have hbb : ((b : Int) == 0) = false := by simp; omega
      have hnz : ((nb : Int) == 0) = false := by simp; omega
      have hni : (nb : Int) - 1 < (nb : Int) := by omega
      have hG5 : G < w5.heap.size := hd5.lt
      have hD5 : D < w5.heap.size := hd5.size
      have HD5 : Hid (Dec w5 D G N cap (off + nb) last) := hd5
      have HL5 : Hid (LsAt w5 (.slice a n c) i q ws) := hls
      have HF : Hid (∀ k, (Value.slice a n c).ownBlock = some k → w.heap.size < k) := fun k hk => by have := hfb k hk; omega
      have HK5 : Hid (Kept w1 w5 (fun k => k = D)) := (HK.out.trans HKr.out (fun _ _ h => h)).trans (Kept.ofBelow hb5 (fun _ => False)) (fun _ _ h => h.elim)
      clear hd5 hcb e3' e0 e1 e2 e3 ef
      have hE : w5.heap.size < (w5.alloc (.cells #[.int .u64 U, .slice a n c, .int .u64 i, .int .u64 q] 40)).heap.size := by simp
      have hB : ∀ X, On (w5.alloc (.cells #[.int .u64 U, .slice a n c, .int .u64 i, .int .u64 q] 40)) X w5.heap.size U (.slice a n c) i q →
          Calls Ybaf.prog 14 #[.agg #[.int .u64 U, .slice a n c, .int .u64 i, .int .u64 q]] X fun e X' => e = .returned (.int .u64 nb) ∧ On (w5.alloc (.cells #[.int .u64 U, .slice a n c, .int .u64 i, .int .u64 q] 40)) X' w5.heap.size U (.slice a n c) i q := by
        intro X hX
        refine (bitmapBytes_ls hls hg2 U L nb ⟨_, _, _, rfl⟩ HLL.out.1 (by omega) HLL.out.2.2.2 (.inr ⟨HLL.out.2.1, HLL.out.2.2.1⟩)).mono ?_
        rintro e X' ⟨rfl, hb⟩
        exact ⟨rfl, hX.next hE hb⟩
      have hS : ∀ X, On (w5.alloc (.cells #[.int .u64 U, .slice a n c, .int .u64 i, .int .u64 q] 40)) X w5.heap.size U (.slice a n c) i q →
          Calls Ybaf.prog 15 #[.agg #[.int .u64 U, .slice a n c, .int .u64 i, .int .u64 q]] X fun e X' => e = .returned (.int .u64 O.length) ∧ On (w5.alloc (.cells #[.int .u64 U, .slice a n c, .int .u64 i, .int .u64 q] 40)) X' w5.heap.size U (.slice a n c) i q := by
        intro X hX
        have hs := singles_ls (w := X) ((hls.below ((Below.refl _ w5).alloc (Nat.le_refl _) _)).below hX.below) hg2 U ⟨_, _, _, rfl⟩ (by simp; omega)
        rw [List.length_map] at hs
        refine hs.mono ?_
        rintro e X' ⟨rfl, hb⟩
        exact ⟨rfl, hX.next hE hb⟩
      have HRW : Hid ((w5.alloc (.cells #[.int .u64 U, .slice a n c, .int .u64 i, .int .u64 q] 40)).heap[w.heap.size]? = some (.cells #[.int .u64 0, .slice none 0 0, .int .u64 0, .int .u64 0] 40 (0, 0))) :=
        (Below.heap_alloc _ _ _ (by have := hb5.size; have := HKr.out.size; omega)).trans ((hb5.block _ (by have := HKr.out.size; omega)).trans HR.out)
      have hs5 : w.heap.size < w5.heap.size := by have := hb5.size; have := HKr.out.size; omega
      clear hls hfb hb5
      go_wp2_with fail
      go_region_with (first
        | (go_at_call 14; refine Calls.mono (hB _ (by first | assumption | exact On.start)) ?_; rintro e X ⟨rfl, hX⟩; have hX' := hX; obtain ⟨xb, x0, x1, x2, x3⟩ := hX')
        | (go_at_call 15; refine Calls.mono (hS _ (by first | assumption | exact On.start)) ?_; rintro e X ⟨rfl, hX⟩; have hX' := hX; obtain ⟨xb, x0, x1, x2, x3⟩ := hX'))
      all_goals
        obtain ⟨z0, z1, z2, z3, y0, y1, y2, y3, ZZ⟩ := res40 w.heap.size (by simp; omega) hX.below HRW.out
        have HX : Hid (On (w5.alloc (.cells #[.int .u64 U, .slice a n c, .int .u64 i, .int .u64 q] 40)) X w5.heap.size U (.slice a n c) i q) := hX
        clear hX xb hB hS
        go_wp2
        have HKX : Kept w5 X (fun _ => False) := (Kept.alloc w5 _ _).trans (Kept.ofBelow HX.out.below (fun _ => False)) (fun _ _ h => h)
        refine bodyPost_ret (v := .agg #[.int .u64 U, .slice a n c, .int .u64 i, .int .u64 q]) (results_cell_row rfl _ _ w.heap.size 40 _ _ _ (by rfl) (set4 ZZ.out _ _ _ _) Ybaf.underlying40 (by rfl) size40) rfl ⟨_, i, q, ws, rfl, ?_, hg2, ?_, ?_⟩
        · exact (HL5.out.kept HKX (fun _ _ h => h)).kept (kept4 X w.heap.size _ _ _ _) (fun g hg e => by have := HF.out g hg; omega)
        · rw [HOFF.out]; exact (HD5.out.kept HKX (fun h => h)).kept (kept4 X w.heap.size _ _ _ _) (by omega)
        · exact ((hK0.out.trans HK5.out (fun _ _ h => h)).trans HKX (fun _ _ h => h.elim)).trans (kept4 X w.heap.size _ _ _ _) (fun i hi h => by omega)
end Go.Proofs.YbulkcqwcFmt

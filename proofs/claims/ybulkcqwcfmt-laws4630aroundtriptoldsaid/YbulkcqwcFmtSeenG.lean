/-
  The contract of the decoder's seen, at the form of gaps.
-/
import Derived.Test.YbulkcqwcFmtGaps
import Derived.Test.YbulkcqwcFmtBmb
import Derived.Test.YbulkcqwcFmtSing
namespace Go.Proofs.YbulkcqwcFmt
open Go Go.RowKit
set_option linter.unusedVariables false

/-- X is W with new blocks; the four cells of block E stand. -/
structure On (W X : World) (E U : Nat) (f : Value) (i q : Nat) : Prop where
  below : Below W.heap.size W X
  c0 : X.cell? ⟨E, 0, none⟩ = some (.int .u64 U)
  c1 : X.cell? ⟨E, 1, none⟩ = some f
  c2 : X.cell? ⟨E, 2, none⟩ = some (.int .u64 i)
  c3 : X.cell? ⟨E, 3, none⟩ = some (.int .u64 q)

theorem On.next {W X Y : World} {E U : Nat} {f : Value} {i q : Nat} (h : On W X E U f i q) (hE : E < W.heap.size) (hb : Below X.heap.size X Y) : On W Y E U f i q := by
  have hs := Nat.lt_of_lt_of_le hE h.below.size
  exact ⟨h.below.trans (hb.mono h.below.size), (hb.cell (p := ⟨E, 0, none⟩) hs).trans h.c0, (hb.cell (p := ⟨E, 1, none⟩) hs).trans h.c1, (hb.cell (p := ⟨E, 2, none⟩) hs).trans h.c2, (hb.cell (p := ⟨E, 3, none⟩) hs).trans h.c3⟩

theorem On.start {w : World} {U : Nat} {f : Value} {i q : Nat} : On (w.alloc (.cells #[.int .u64 U, f, .int .u64 i, .int .u64 q] 40)) (w.alloc (.cells #[.int .u64 U, f, .int .u64 i, .int .u64 q] 40)).drew w.heap.size U f i q :=
  ⟨(Below.refl _ _).drew, by simp, by simp, by simp, by simp⟩

set_option maxHeartbeats 4000000 in
set_option maxRecDepth 100000 in
theorem seen_gaps (D G N cap last U nb : Nat) (gs : List Nat) (w : World) (rest : List UInt8) (hd : Dec w D G N cap 0 last) (hb : Bytes w G (Lib.uvarint U ++ Lib.uvarint (2 * gs.length) ++ gb gs ++ rest)) (hN : N = (Lib.uvarint U ++ Lib.uvarint (2 * gs.length) ++ gb gs ++ rest).length) (hn : N ≤ 1048576) (hcap : N ≤ cap) (hcm : cap ≤ maxLen)
    (hgs : ∀ g ∈ gs, g < 256) (hk : gs.length ≤ 1024) (hU : U < 4294967296) (hUl : U ≤ last) (hl : gs ≠ [] → endc (U + 1) gs ≤ last) (hl' : last < 4611686018427387904) (hT : Tab w) (h0 : 0 < D) (h0G : 0 < G)
    (hnb : (gs = [] ∧ nb = 0) ∨ (gs ≠ [] ∧ nb = (endc (U + 1) gs - U - 2) / 8 + 1)) (hnk : gs.length ≤ nb) :
    Calls Ybaf.prog 6 #[.pointer (some ⟨D, 0, none⟩)] w fun e w' => ∃ f i q ws, e = .returned (.agg #[.int .u64 U, f, .int .u64 (i : Nat), .int .u64 (q : Nat)]) ∧ LsAt w' f i q ws ∧ Good ws (cts (U + 1) gs) ∧
      Dec w' D G N cap ((Lib.uvarint U).length + (Lib.uvarint (2 * gs.length)).length + (gb gs).length) last ∧ Kept w w' (fun k => k = D) := by
  have hds := hd.size
  have hglen : gs.length ≤ (gb gs).length := by
    unfold gb
    clear hb hN hgs hk hl hnb hnk
    induction gs with
    | nil => simp
    | cons g gs ih => have := Lib.uvarint_pos g; rw [List.flatMap_cons, List.length_append, List.length_cons]; omega
  go_enter Ybaf.func6, Ybaf.ntmps6
  go_wp2_with fail
  have hK0 : Hid (Kept w (w.alloc (.cells #[.int .u64 0, .slice none 0 0, .int .u64 0, .int .u64 0] 40)) (fun k => k = D)) := Kept.alloc _ _ _
  have hd1 : Dec (w.alloc (.cells #[.int .u64 0, .slice none 0 0, .int .u64 0, .int .u64 0] 40)) D G N cap 0 last := hd.kept (Kept.alloc _ _ (fun _ => False)) (fun h => h)
  have hb1 : Bytes (w.alloc (.cells #[.int .u64 0, .slice none 0 0, .int .u64 0, .int .u64 0] 40)) G (Lib.uvarint U ++ Lib.uvarint (2 * gs.length) ++ gb gs ++ rest) := hb.kept (Kept.alloc _ _ (fun _ => False)) hd.lt (fun h => h)
  have hx1 : Hid ((w.alloc (.cells #[.int .u64 0, .slice none 0 0, .int .u64 0, .int .u64 0] 40)).heap[w.heap.size]? = some (.cells #[.int .u64 0, .slice none 0 0, .int .u64 0, .int .u64 0] 40 (0, 0))) := heap_alloc_new _ _
  have hsz : (w.alloc (.cells #[.int .u64 0, .slice none 0 0, .int .u64 0, .int .u64 0] 40)).heap.size = w.heap.size + 1 := by simp
  generalize w.alloc (.cells #[.int .u64 0, .slice none 0 0, .int .u64 0, .int .u64 0] 40) = w1 at *
  refine (counter_c D G N cap 0 last U w1 [] (Lib.uvarint (2 * gs.length) ++ gb gs ++ rest) hd1 (by simpa using hb1) (by rw [hN]; simp) rfl (by omega) hn hcap hcm hUl hl').mono ?_
  rintro e w2 ⟨rfl, hd2, hk2⟩
  go_wp2_with fail
  have hb2 := hb1.kept hk2 hd1.lt (fun h => hd1.ne h)
  refine (uvarint_c D G N cap _ last (2 * gs.length) w2 (Lib.uvarint U) (gb gs ++ rest) hd2 (by simpa using hb2) (by rw [hN]; simp) (by simp) (by omega) hn hcap hcm).mono ?_
  rintro e w3 ⟨rfl, hd3, hk3⟩
  have hb3 := hb2.kept hk3 hd2.lt (fun h => hd2.ne h)
  have hq2 : ((2 * gs.length : Nat) : Int) / 2 = (gs.length : Int) := by omega
  have hm2 : ((2 * gs.length : Nat) : Int) % 2 = 0 := by omega
  go_wp2_with fail
  have hNl := hN
  simp only [List.length_append] at hNl
  refine (within_c D G N cap _ last gs.length w3 hd3 (by omega) hn).mono ?_
  rintro e w4 ⟨rfl, hb4⟩
  have hd4 := hd3.kept (Kept.ofBelow hb4 (fun _ => False)) (fun h => h)
  have hbb4 := hb3.kept (Kept.ofBelow hb4 (fun _ => False)) hd3.lt (fun h => h)
  have hk14 : Kept w1 w4 (fun k => k = D) := (hk2.trans hk3 (fun _ _ h => h)).trans (Kept.ofBelow hb4 (fun _ => False)) (fun _ _ h => h.elim)
  have hT4 : Tab w4 := (hT.kept hK0.out (by omega) (by omega)).kept hk14 (by omega) (by omega)
  go_wp2_with fail
  refine (gaps_c D G N cap _ last U gs w4 (Lib.uvarint U ++ Lib.uvarint (2 * gs.length)) rest hd4 (by simpa using hbb4) (by rw [hN]) (by simp) hn hcap hcm hgs hk hU hl hl' hT4 h0 h0G).mono ?_
  rintro e w5 ⟨f, i, q, ws, rfl, hls, hgood, hd5, hk5, hfb⟩
  obtain ⟨a, n, c, rfl⟩ := hls.form
  have hk15 : Kept w1 w5 (fun k => k = D) := hk14.trans hk5 (fun _ _ h => h)
  have hs15 := hk15.size
  have hclen := cts_length gs (U + 1)
  go_wp2_with fail
  have hE : w5.heap.size < (w5.alloc (.cells #[.int .u64 U, .slice a n c, .int .u64 i, .int .u64 q] 40)).heap.size := by simp
  have hB : ∀ X, On (w5.alloc (.cells #[.int .u64 U, .slice a n c, .int .u64 i, .int .u64 q] 40)) X w5.heap.size U (.slice a n c) i q →
      Calls Ybaf.prog 14 #[.agg #[.int .u64 U, .slice a n c, .int .u64 i, .int .u64 q]] X fun e X' => e = .returned (.int .u64 nb) ∧ On (w5.alloc (.cells #[.int .u64 U, .slice a n c, .int .u64 i, .int .u64 q] 40)) X' w5.heap.size U (.slice a n c) i q := by
    intro X hX
    have hlast : ((cts (U + 1) gs).getLast?.getD U = U ∧ nb = 0) ∨ (U + 2 ≤ (cts (U + 1) gs).getLast?.getD U ∧ nb = ((cts (U + 1) gs).getLast?.getD U - U - 2) / 8 + 1) := by
      rcases hnb with ⟨rfl, rfl⟩ | ⟨hne, hnb⟩
      · exact .inl ⟨rfl, rfl⟩
      · rw [cts_last gs _ hne, Option.getD_some]
        have := endc_ge gs (U + 1)
        have : 0 < gs.length := List.length_pos_iff.2 hne
        exact .inr ⟨by omega, hnb⟩
    have hbig : (cts (U + 1) gs).getLast?.getD U < 4611686018427387904 := by
      rcases hnb with ⟨rfl, rfl⟩ | ⟨hne, hnb⟩
      · show U < _; omega
      · rw [cts_last gs _ hne, Option.getD_some]
        have := hl hne
        omega
    refine (bitmapBytes_ls hls hgood U _ nb ⟨_, _, _, rfl⟩ rfl (by omega) hbig hlast).mono ?_
    rintro e X' ⟨rfl, hb⟩
    exact ⟨rfl, hX.next hE hb⟩
  have hS : ∀ X, On (w5.alloc (.cells #[.int .u64 U, .slice a n c, .int .u64 i, .int .u64 q] 40)) X w5.heap.size U (.slice a n c) i q →
      Calls Ybaf.prog 15 #[.agg #[.int .u64 U, .slice a n c, .int .u64 i, .int .u64 q]] X fun e X' => e = .returned (.int .u64 gs.length) ∧ On (w5.alloc (.cells #[.int .u64 U, .slice a n c, .int .u64 i, .int .u64 q] 40)) X' w5.heap.size U (.slice a n c) i q := by
    intro X hX
    have hs := singles_ls (w := X) ((hls.below ((Below.refl _ w5).alloc (Nat.le_refl _) _)).below hX.below) hgood U ⟨_, _, _, rfl⟩ (by omega)
    rw [hclen] at hs
    refine hs.mono ?_
    rintro e X' ⟨rfl, hb⟩
    exact ⟨rfl, hX.next hE hb⟩
  obtain ⟨_, _, _, e3, _⟩ := (hd5.kept (Kept.alloc w5 (.cells #[.int .u64 U, .slice a n c, .int .u64 i, .int .u64 q] 40) (fun _ => False)) (fun h => h)).cells
  have HD5 : Hid (Dec w5 D G N cap ((Lib.uvarint U).length + (Lib.uvarint (2 * gs.length)).length + (gb gs).length) last) := by
    have h := hd5
    simp only [Nat.zero_add] at h
    exact h
  have HF : Hid (∀ k, (Value.slice a n c).ownBlock = some k → w.heap.size < k) := fun k hk => by have := hfb k hk; have := hk14.size; omega
  have HR : Hid ((w5.alloc (.cells #[.int .u64 U, .slice a n c, .int .u64 i, .int .u64 q] 40)).heap[w.heap.size]? = some (.cells #[.int .u64 0, .slice none 0 0, .int .u64 0, .int .u64 0] 40 (0, 0))) :=
    (Below.heap_alloc _ _ _ (by omega)).trans ((hk15.block _ (by omega) (by omega)).trans hx1.out)
  have HL5 : Hid (LsAt w5 (.slice a n c) i q ws) := hls
  have HK5 : Hid (Kept w1 w5 (fun k => k = D)) := hk15
  clear hd1 hb1 hd2 hk2 hb2 hd3 hk3 hb3 hd4 hbb4 hk14 hT4 hb4 hd5 hk5 hls hk15 hfb hd hb hN hNl hnb hT hgs
  go_region_with (first
    | (go_at_call 14; refine Calls.mono (hB _ (by first | assumption | exact On.start)) ?_; rintro e X ⟨rfl, hX⟩; have hX' := hX; obtain ⟨xb, x0, x1, x2, x3⟩ := hX')
    | (go_at_call 15; refine Calls.mono (hS _ (by first | assumption | exact On.start)) ?_; rintro e X ⟨rfl, hX⟩; have hX' := hX; obtain ⟨xb, x0, x1, x2, x3⟩ := hX'))
  all_goals
    obtain ⟨z0, z1, z2, z3, y0, y1, y2, y3, ZZ⟩ := res40 w.heap.size (by simp; omega) hX.below HR.out
    have HX : Hid (On (w5.alloc (.cells #[.int .u64 U, .slice a n c, .int .u64 i, .int .u64 q] 40)) X w5.heap.size U (.slice a n c) i q) := hX
    clear hX xb hB hS
    go_wp2
    have HKX : Kept w5 X (fun _ => False) := (Kept.alloc w5 _ _).trans (Kept.ofBelow HX.out.below (fun _ => False)) (fun _ _ h => h)
    refine bodyPost_ret (v := .agg #[.int .u64 U, .slice a n c, .int .u64 i, .int .u64 q]) (results_cell_row rfl _ _ w.heap.size 40 _ _ _ (by rfl) (set4 ZZ.out _ _ _ _) Ybaf.underlying40 (by rfl) size40) rfl ⟨_, i, q, ws, rfl, ?_, hgood, ?_, ?_⟩
    · exact (HL5.out.kept HKX (fun _ _ h => h)).kept (kept4 X w.heap.size _ _ _ _) (fun g hg e => by have := HF.out g hg; omega)
    · exact (HD5.out.kept HKX (fun h => h)).kept (kept4 X w.heap.size _ _ _ _) (by omega)
    · exact ((hK0.out.trans HK5.out (fun _ _ h => h)).trans HKX (fun _ _ h => h.elim)).trans (kept4 X w.heap.size _ _ _ _) (fun i hi h => by omega)
end Go.Proofs.YbulkcqwcFmt

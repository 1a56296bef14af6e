/-
  The contract of the decoder's gaps.
-/
import Derived.Test.YbulkcqwcFmtDec
import Derived.Test.YbulkcqwcFmtNorm
import Derived.Test.YbulkcqwcFmtCts
namespace Go.Proofs.YbulkcqwcFmt
open Go Go.RowKit
set_option linter.unusedVariables false

theorem kept4 (w1 : World) (g : Nat) (a b c d : Value) : Kept w1 ((((w1.setCell ⟨g, 0, none⟩ a).setCell ⟨g, 1, none⟩ b).setCell ⟨g, 2, none⟩ c).setCell ⟨g, 3, none⟩ d) (fun k => k = g) :=
  (((Kept.setCell w1 ⟨g, 0, none⟩ a).trans (Kept.setCell _ ⟨g, 1, none⟩ b) (fun _ _ h => h)).trans (Kept.setCell _ ⟨g, 2, none⟩ c) (fun _ _ h => h)).trans (Kept.setCell _ ⟨g, 3, none⟩ d) (fun _ _ h => h)

theorem endc_append : ∀ (a b : List Nat) (p : Nat), endc p (a ++ b) = endc (endc p a) b
  | [], b, p => rfl
  | x :: a, b, p => by simp [endc, endc_append a b]

def gb (gs : List Nat) : List UInt8 := gs.flatMap Lib.uvarint

set_option maxHeartbeats 4000000 in
set_option maxRecDepth 100000 in
theorem gaps_c (D G N cap off last U : Nat) (gs : List Nat) (w : World) (pre rest : List UInt8) (hd : Dec w D G N cap off last) (hb : Bytes w G (pre ++ gb gs ++ rest)) (hN : N = (pre ++ gb gs ++ rest).length) (hoff : off = pre.length) (hn : N ≤ 1048576) (hcap : N ≤ cap) (hcm : cap ≤ maxLen)
    (hgs : ∀ g ∈ gs, g < 256) (hk : gs.length ≤ 1024) (hU : U < 4294967296) (hl : gs ≠ [] → endc (U + 1) gs ≤ last) (hl' : last < 4611686018427387904) (hT : Tab w) (h0 : 0 < D) (h0G : 0 < G) :
    Calls Ybaf.prog 13 #[.pointer (some ⟨D, 0, none⟩), .int .u64 U, .int .i64 gs.length] w fun e w' => ∃ f i q ws, e = .returned (.agg #[.int .u64 U, f, .int .u64 (i : Nat), .int .u64 (q : Nat)]) ∧ LsAt w' f i q ws ∧ Good ws (cts (U + 1) gs) ∧
      Dec w' D G N cap (off + (gb gs).length) last ∧ Kept w w' (fun k => k = D) ∧ ∀ k, f.ownBlock = some k → w.heap.size ≤ k := by
  have hds := hd.size
  go_enter Ybaf.func13, Ybaf.ntmps13
  go_wp2
  have hK0 : Hid (Kept w (w.alloc (.cells #[.int .u64 0, .slice none 0 0, .int .u64 0, .int .u64 0] 40)) (fun k => k = D)) := Kept.alloc _ _ _
  have hd1 : Hid (Dec (w.alloc (.cells #[.int .u64 0, .slice none 0 0, .int .u64 0, .int .u64 0] 40)) D G N cap off last) := hd.kept (Kept.alloc _ _ (fun _ => False)) (fun h => h)
  have hb1 : Hid (Bytes (w.alloc (.cells #[.int .u64 0, .slice none 0 0, .int .u64 0, .int .u64 0] 40)) G (pre ++ gb gs ++ rest)) := hb.kept (Kept.alloc _ _ (fun _ => False)) hd.lt (fun h => h)
  have hx1 : Hid ((w.alloc (.cells #[.int .u64 0, .slice none 0 0, .int .u64 0, .int .u64 0] 40)).heap[w.heap.size]? = some (.cells #[.int .u64 0, .slice none 0 0, .int .u64 0, .int .u64 0] 40 (0, 0))) := heap_alloc_new _ _
  have hsz : (w.alloc (.cells #[.int .u64 0, .slice none 0 0, .int .u64 0, .int .u64 0] 40)).heap.size = w.heap.size + 1 := by simp
  generalize w.alloc (.cells #[.int .u64 0, .slice none 0 0, .int .u64 0, .int .u64 0] 40) = w1 at *
  go_loopw [7, 8, 12] (fun v7 v8 v12 wr => ∃ done todo ws, gs = done ++ todo ∧ v12 = .int .i64 done.length ∧ v8 = .int .u64 (endc (U + 1) done : Nat) ∧ wr.ownsRow w1.heap.size 36 2 v7 ws.length (wcells ws) ∧ Good ws (cts (U + 1) done) ∧
      Dec wr D G N cap (off + (gb done).length) last ∧ Kept w1 wr (fun k => k = D))
    (fun _ _ v12 _ => gs.length - (intOf v12).toNat)
  case atStart => exact ⟨[], gs, [], rfl, rfl, rfl, World.ownsRow_nil _ _ _ _, .nil, by simpa [gb] using hd1.out, Kept.refl _ _⟩
  case round =>
    obtain ⟨done, todo, ws, hsplit, rfl, rfl, hown, hgood, hdr, hkr⟩ := hrel
    have hks := hkr.size
    have hT1 : Tab wr := by
      have h1 : Tab w1 := hT.kept hK0.out (by omega) (by omega)
      exact h1.kept hkr (by omega) (by omega)
    have hdl : done.length ≤ 1024 := by
      have := congrArg List.length hsplit
      simp at this
      omega
    have hgl := hgood.len
    rw [cts_length] at hgl
    cases todo with
    | nil =>
      have hdn : done = gs := by rw [hsplit]; simp
      subst hdn
      clear hsplit
      have HX : Hid (wr.heap[w.heap.size]? = some (.cells #[.int .u64 0, .slice none 0 0, .int .u64 0, .int .u64 0] 40 (0, 0))) := (hkr.block _ (by omega) (by omega)).trans hx1.out
      go_wp2_with fail
      refine (normalised_any w1.heap.size U (by omega) ws _ hgood (fun c hc => by have := cts_mem _ _ _ hc; omega) (by omega) _ wr hown hT1 (by omega)).mono ?_
      rintro e w2 ⟨f, i, q, rfl, hls, hb2, hfb⟩
      obtain ⟨a, n, c, rfl⟩ := hls.form
      obtain ⟨z0, z1, z2, z3, y0, y1, y2, y3, X⟩ := res40 w.heap.size (by omega) hb2 HX.out
      have HL : Hid (LsAt w2 (.slice a n c) i q ws) := hls
      have HF : Hid (∀ k, (Value.slice a n c).ownBlock = some k → w1.heap.size ≤ k) := hfb
      have HK : Hid (Kept w w2 (fun k => k = D) ∧ Dec w2 D G N cap (off + (gb done).length) last) := 
        ⟨(hK0.out.trans hkr (fun _ _ h => h)).trans (Kept.ofBelow hb2 (fun _ => False)) (fun _ _ h => h.elim), hdr.kept (Kept.ofBelow hb2 (fun _ => False)) (fun h => h)⟩
      clear hls hfb
      go_wp2
      have K4 := fun (a b c d : Value) => kept4 w2 w.heap.size a b c d
      refine bodyPost_ret (v := .agg #[.int .u64 U, .slice a n c, .int .u64 i, .int .u64 q]) (results_cell_row rfl _ _ w.heap.size 40 _ _ _ (by rfl) (set4 X.out _ _ _ _) Ybaf.underlying40 (by rfl) size40) rfl ⟨_, i, q, ws, rfl, ?_, hgood, ?_, ?_, fun k hk => by have := HF.out k hk; omega⟩
      · exact HL.out.kept (K4 _ _ _ _) (fun g hg e => by have := HF.out g hg; omega)
      · exact HK.out.2.kept (K4 _ _ _ _) (by omega)
      · exact HK.out.1.trans (K4 _ _ _ _) (fun i hi h => by omega)
    | cons g todo =>
      have hg256 := hgs g (by rw [hsplit]; simp)
      have hend : endc (U + 1) done + g + 1 ≤ last := by
        have hl := hl (by rw [hsplit]; simp)
        have h1 : endc (U + 1) gs = endc (endc (U + 1) done + g + 1) todo := by
          rw [hsplit, endc_append]; rfl
        have := endc_ge todo (endc (U + 1) done + g + 1)
        omega
      have hcb : Bytes wr G ((pre ++ gb done) ++ Lib.uvarint g ++ (gb todo ++ rest)) := by
        have := hb1.out.kept hkr hd1.out.lt (fun h => hdr.ne h)
        rw [hsplit] at this
        simpa [gb] using this
      have hNN : N = ((pre ++ gb done) ++ Lib.uvarint g ++ (gb todo ++ rest)).length := by
        rw [hN, hsplit]; simp [gb]
      have hlt : done.length < gs.length := by rw [hsplit]; simp
      have HS : Hid (gs = done ++ g :: todo) := hsplit
      have HH : Hid (N = ((pre ++ gb done) ++ Lib.uvarint g ++ (gb todo ++ rest)).length ∧ off + (gb done).length = (pre ++ gb done).length) := ⟨hNN, by simp [hoff]⟩
      have hge := endc_ge done (U + 1)
      have hle2 : endc (U + 1) done ≤ last := by omega
      have hbef : (((endc (U + 1) done : Nat) : Int) == 0) = false := by simp; omega
      clear hsplit hNN hN hoff hd hb
      go_wp2_with fail
      refine (after_c D G N cap _ last g (endc (U + 1) done) wr (pre ++ gb done) (gb todo ++ rest) hdr hcb HH.out.1 HH.out.2 (by omega) hn hcap hcm hend hl').mono ?_
      rintro e w2 ⟨rfl, hd2, hk2⟩
      obtain ⟨e0, e1, e2, e3, ef⟩ := hd2.cells
      have hD2 : Hid (Dec w2 D G N cap (off + (gb done).length + (Lib.uvarint g).length) last) := hd2
      clear e0 e1 e2 ef hd2
      go_wp2_with fail
      rw [show (((endc (U + 1) done : Nat) : Int) + (g : Int) + 1) = ((endc (U + 1) done + g + 1 : Nat) : Int) by omega]
      have hlt7 := hown.lt
      have hown2 : w2.ownsRow w1.heap.size 36 2 u7 ws.length (wcells ws) := hk2.owns hown (fun k hk e => by have := hlt7 k hk; omega)
      have hgt : ∀ c ∈ cts (U + 1) done, c < endc (U + 1) done + g + 1 := fun c hc => by have := cts_mem _ _ _ hc; omega
      have hk2s := hk2.size
      refine (appendCounter_any w1.heap.size ws _ hgood (endc (U + 1) done + g + 1) (by omega) (by omega) (by omega) hgt u7 w2 hown2 (by omega)).mono ?_
      rintro e w3 ⟨v', rfl, hown3, hk3, hl3⟩
      have R : Hid (w3.ownsRow w1.heap.size 36 2 v' (addC ws (endc (U + 1) done + g + 1)).length (wcells (addC ws (endc (U + 1) done + g + 1))) ∧ Good (addC ws (endc (U + 1) done + g + 1)) (cts (U + 1) (done ++ [g])) ∧
          Dec w3 D G N cap (off + (gb (done ++ [g])).length) last ∧ Kept w1 w3 (fun k => k = D)) := by
        refine ⟨hown3, ?_, ?_, ?_⟩
        · rw [cts_snoc]
          exact hgood.step _ (by omega) (by omega) hgt
        · have e : off + (gb (done ++ [g])).length = off + (gb done).length + (Lib.uvarint g).length := by simp [gb]; omega
          rw [e]
          exact hD2.out.kept hk3 (fun e => by have := hlt7 D e; omega)
        · exact (hkr.trans hk2 (fun _ _ h => h)).trans hk3 (fun i hi e => by have := hlt7 i e; omega)
      clear hown3 hk3 hl3 hown2 hk2
      go_wp2
      refine ⟨⟨done ++ [g], todo, addC ws (endc (U + 1) done + g + 1), by rw [HS.out]; simp, ?_, ?_, R.out⟩, ?_⟩
      · simp
      · rw [endc_snoc]; rfl
      · simp [intOf]; omega
end Go.Proofs.YbulkcqwcFmt

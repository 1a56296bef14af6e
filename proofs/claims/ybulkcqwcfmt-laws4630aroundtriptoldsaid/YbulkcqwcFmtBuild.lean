/-
  The contract of zzs4630abuild.
-/
import Derived.Test.YbulkcqwcFmtCalls
import Derived.Test.YbulkcqwcFmtGaps
import Derived.Test.YbulkcqwcFmtBm
import Derived.Test.YbulkcqwcFmtAsing
import Derived.OwnWalk
namespace Go.Proofs.YbulkcqwcFmt
open Go Go.RowKit
set_option linter.unusedVariables false

/-- A slice of bytes that came in. -/
def Came8 (w : World) (a : Option Addr) (gs : List Nat) : Prop :=
  gs = [] ∨ ∃ b o, a = some ⟨b, o, none⟩ ∧ ∀ j g, gs[j]? = some g → w.cell? ⟨b, o + j, none⟩ = some (.int .u8 (g : Nat))

theorem Came8.at {w w' : World} {a : Option Addr} {gs : List Nat} (h : Came8 w a gs) (hb : Below w.heap.size w w') {k g : Nat} (hk : gs[k]? = some g) : ∃ b o, a = some ⟨b, o, none⟩ ∧ w'.cell? ⟨b, o + k, none⟩ = some (.int .u8 (g : Nat)) := by
  rcases h with rfl | ⟨b, o, rfl, hc⟩
  · simp at hk
  · have := hc k g hk
    exact ⟨b, o, rfl, (hb.cell (World.block_lt_of_cell? w _ this)).trans this⟩

def lastOf (U : Nat) (gs : List Nat) : Nat := if gs = [] then U else endc (U + 1) gs
def nbOf (U : Nat) (gs : List Nat) : Nat := if gs = [] then 0 else (endc (U + 1) gs - U - 2) / 8 + 1
def offsOf (U : Nat) (gs : List Nat) : List Nat := (cts (U + 1) gs).map fun c => c - U - 2
def encOf (U : Nat) (gs : List Nat) : List UInt8 :=
  if nbOf U gs < gs.length then Lib.uvarint U ++ Lib.uvarint (2 * nbOf U gs + 1) ++ bmb (offsOf U gs) (nbOf U gs) else Lib.uvarint U ++ Lib.uvarint (2 * gs.length) ++ gb gs

def brow (O : List Nat) (nb : Nat) : List Value := (List.range nb).map fun j => .int .u8 (val (plc O j) : Nat)

theorem make8 (n : Nat) (hn : n ≤ 1048576) (w : World) : (Instr.makeSlice 23 (.int .u64 (n : Int)) (.int .u64 (n : Int))).run Ybaf.prog w = .ok (.slice (some ⟨w.heap.size, 0, none⟩) n n) (w.alloc (.cells (madeCells #[.int .u8 0] n) 5)) := by
  obtain ⟨i0, hi, hz0, hz1, hz2⟩ := info_parts Ybaf.info5
  have hr := run_make (P := Ybaf.prog) w 23 5 i0 (.int .u8 0) Ybaf.underlying23 hi hz0 .u64 .u64 n n (by omega) (Int.le_refl _) (by rw [hz2]; omega) (by omega)
  simp only [Int.toNat_natCast, hz1, Nat.mul_one] at hr
  exact hr

set_option maxHeartbeats 4000000 in
set_option maxRecDepth 100000 in
theorem build_c (U : Nat) (gs : List Nat) (a : Option Addr) (cap : Nat) (w : World) (hU : U < 4294967296) (hgs : ∀ g ∈ gs, g < 256) (hk : gs.length ≤ 1024) (hc : Came8 w a gs) :
    Calls Ybaf.prog 5 #[.int .u32 U, .slice a gs.length cap, .bool false] w fun e w' => ∃ v1 v2, e = .returned (.tuple #[v1, v2, .int .u64 (lastOf U gs : Nat)]) ∧ w'.ownsRow w.heap.size 5 1 v1 (encOf U gs).length (Lib.byteCells (encOf U gs)) ∧
      w'.ownsRow w.heap.size 25 1 v2 gs.length (nums (cts (U + 1) gs)) ∧ Below w.heap.size w w' := by
  obtain ⟨i0, hi, hz0, hz1, hz2⟩ := info_parts info25
  go_enter Ybaf.func5, Ybaf.ntmps5
  go_wp2
  go_loopw [10, 11, 32] (fun v10 v11 v32 wr => ∃ k : Nat, v32 = .int .i64 k ∧ k ≤ gs.length ∧ v11 = .int .u64 (endc (U + 1) (gs.take k) : Nat) ∧ wr.ownsRow w.heap.size 25 1 v10 k (nums (cts (U + 1) (gs.take k))) ∧ Below w.heap.size w wr)
    (fun _ _ v32 _ => gs.length - (intOf v32).toNat)
  case atStart => exact ⟨0, rfl, Nat.zero_le _, rfl, World.ownsRow_nil _ _ _ _, Below.refl _ _⟩
  case round =>
    obtain ⟨k, rfl, hkl, rfl, hown, hbr⟩ := hrel
    have hend : endc (U + 1) (gs.take k) ≤ U + 1 + 256 * 1024 := by
      have := endc_le (gs.take k) (U + 1) (fun g hg => hgs g (List.mem_of_mem_take hg))
      have : (gs.take k).length ≤ 1024 := by rw [List.length_take]; omega
      omega
    by_cases hlt : k < gs.length
    · obtain ⟨g, hg⟩ : ∃ g, gs[k]? = some g := ⟨_, List.getElem?_eq_getElem hlt⟩
      have hg256 := hgs g (List.mem_of_getElem? hg)
      obtain ⟨b, o, rfl, hcell⟩ := hc.at hbr hg
      have htk : gs.take (k + 1) = gs.take k ++ [g] := by
        obtain ⟨hk', he⟩ := List.getElem?_eq_some_iff.1 hg
        rw [List.take_succ_eq_append_getElem hk', he]
      have hsz := hbr.size
      have hlt10 := hown.lt
      have HTK : Hid (gs.take (k + 1) = gs.take k ++ [g]) := htk
      have HC : Hid (Came8 w (some ⟨b, o, none⟩) gs) := hc
      clear htk hc
      generalize hE : endc (U + 1) (gs.take k) = E at *
      have HE : Hid (endc (U + 1) (gs.take k) = E) := hE
      clear hE
      go_wp2_with (at_builtin; refine wpList_append_own_at _ rfl _ _ 24 rfl w.heap.size 25 i0 (.int .u64 0) 1 8 Ybaf.underlying24 hi hz0 hz1 hz2 rfl (by decide) _ _ _ rfl (hown.alloc _) ⟨wr.heap.size, 0, none⟩ 1 1 [Value.int .u64 ((E : Int) + (g : Int) + 1)] rfl rfl (cell_one_new _ _ _) ?c2 ?c3 ?c4 ?c5 ?_)
      case c2 => intro u hu; simp at hu; subst hu; rfl
      case c3 => unfold maxLen; omega
      case c4 => omega
      case c5 => simp; omega
      intro v' w' hown' hgrow _ hat
      have R : Hid (w'.ownsRow w.heap.size 25 1 v' (k + 1) (nums (cts (U + 1) (gs.take (k + 1)))) ∧ Below w.heap.size w w') := by
        refine ⟨?_, (hbr.alloc (by omega) _).grown hgrow (by simp; omega) (fun k hk => (hlt10 k hk).1)⟩
        rw [HTK.out, cts_snoc, nums_append, HE.out]
        have e : nums [E + g + 1] = [Value.int .u64 ((E : Int) + (g : Int) + 1)] := by simp [nums]
        rw [e]
        exact hown'
      clear hown' hgrow hat hown
      go_wp2
      refine ⟨⟨k + 1, rfl, by omega, ?_, R.out⟩, ?_⟩
      · rw [HTK.out, endc_snoc, HE.out]; rfl
      · simp [intOf]; omega
    · have hke : k = gs.length := by omega
      subst hke
      rw [List.take_length] at hown hend
      have htl : gs.take gs.length = gs := List.take_length
      rw [htl]
      by_cases hg0 : gs = []
      · subst hg0
        have hwn : ∃ ac cc, u10 = .slice ac 0 cc := by
          rcases hown.2 with ⟨rfl, _⟩ | ⟨g, cap, cur, rfl, _⟩
          · exact ⟨_, _, rfl⟩
          · exact ⟨_, _, rfl⟩
        obtain ⟨ac, cc, rfl⟩ := hwn
        have hsz := hbr.size
        have hlt10 := hown.lt
        simp only [List.length_nil, endc]
        go_wp2_with fail
        refine (uvarint_any w.heap.size 0 U (by omega) (.slice none 0 0) [] wr (World.ownsRow_nil _ _ _ _) hsz (by omega)).mono ?_
        rintro e w2 ⟨v1, rfl, hown1, hk1, hl1⟩
        have hown2 : w2.ownsRow w.heap.size 25 1 (.slice ac 0 cc) 0 (nums (cts (U + 1) [])) := hk1.owns hown (fun k _ h => by simp [Value.ownBlock] at h)
        have hb2 : Below w.heap.size w w2 := hbr.trans (hk1.below w.heap.size hsz (fun k h => by simp [Value.ownBlock] at h))
        have hbs2 := hb2.size
        have hlu := Lib.uvarint_length64 (x := U) (by omega)
        simp only [Nat.zero_add, List.nil_append] at hown1
        have hlt1 := hown1.lt
        have hne1 : ∀ k, (Value.slice ac 0 cc).ownBlock = some k → v1.ownBlock ≠ some k := by
          intro k hk h
          have := hlt10 k hk
          rcases hl1 k h with h' | h'
          · simp [Value.ownBlock] at h'
          · omega
        clear hown hbr hk1 hl1
        go_wp2_with fail
        refine (uvarint_any w.heap.size _ 0 (by omega) v1 _ w2 hown1 hbs2 (by omega)).mono ?_
        rintro e w3 ⟨v3, rfl, hown3, hk3, hl3⟩
        have ho2 : w3.ownsRow w.heap.size 25 1 (.slice ac 0 cc) 0 (nums (cts (U + 1) [])) := hk3.owns hown2 (fun k hk h => hne1 k hk h)
        have hb3 : Below w.heap.size w w3 := hb2.trans (hk3.below w.heap.size hbs2 (fun k h => (hlt1 k h).1))
        clear hk3 hl3 hown2 hown1
        go_wp2
        refine wp_loop_rounds 1 ?_
        rw [rounds_succ]
        go_wp2
        refine bodyPost_ret (results_tmp3 rfl _ _ _) rfl ⟨v3, .slice ac 0 cc, ?_, ?_, ho2, hb3⟩
        · simp only [lastOf, if_true]; rfl
        · have e3 : encOf U [] = Lib.uvarint U ++ Lib.uvarint 0 := by unfold encOf; simp [nbOf, gb]
          rw [e3, Lib.byteCells_append, List.length_append]
          exact hown3
      · obtain ⟨gc, cc, curc, rfl, hgc⟩ : ∃ gc cc curc, u10 = .slice (some ⟨gc, 0, none⟩) gs.length cc ∧ w.heap.size ≤ gc ∧ wr.heap[gc]? = some (.cells curc 25 (0, 0)) := by
          rcases hown.2 with ⟨_, hn⟩ | ⟨g, cap, cur, rfl, h1, h2, _⟩
          · exact absurd (List.eq_nil_of_length_eq_zero hn) hg0
          · exact ⟨g, cap, cur, rfl, h1, h2⟩
        have hlen0 : 0 < gs.length := List.length_pos_iff.2 hg0
        have hcl : wr.cell? ⟨gc, gs.length - 1, none⟩ = some (.int .u64 (endc (U + 1) gs : Nat)) := by
          rw [hown.cellAt _ (by omega)]
          have hlast := cts_last gs (U + 1) hg0
          unfold nums
          rw [List.getElem?_map, ← cts_length gs (U + 1), ← List.getLast?_eq_getElem?, hlast]
          rfl
        have hge := endc_ge gs (U + 1)
        generalize hE : endc (U + 1) gs = E at *
        obtain ⟨nb, hnb⟩ : ∃ nb : Nat, nb = (E - U - 2) / 8 + 1 := ⟨_, rfl⟩
        have hnbi : ((E : Int) - (U : Int) - 2) / 8 + 1 = (nb : Int) := by omega
        have hnb2 : nb ≤ 262144 := by omega
        have HE : Hid (endc (U + 1) gs = E ∧ nb = (E - U - 2) / 8 + 1) := ⟨hE, hnb⟩
        clear hE hnb
        go_wp2_with fail
        clear hnbi
        have hsz := hbr.size
        have hbi : Hid (Below w.heap.size w wr) := hbr
        refine (uvarint_any w.heap.size 0 U (by omega) (.slice none 0 0) [] wr (World.ownsRow_nil _ _ _ _) hsz (by omega)).mono ?_
        rintro e w2 ⟨v1, rfl, hown1, hk1, hl1⟩
        have hown2 : w2.ownsRow w.heap.size 25 1 (.slice (some ⟨gc, 0, none⟩) gs.length cc) gs.length (nums (cts (U + 1) gs)) := hk1.owns hown (fun k _ h => by simp [Value.ownBlock] at h)
        have hb2 : Below w.heap.size w w2 := hbr.trans (hk1.below w.heap.size hsz (fun k h => by simp [Value.ownBlock] at h))
        have hne1 : ∀ k, v1.ownBlock = some k → k ≠ gc := by
          intro k hk
          have h2 := lt_of_block hgc.2
          rcases hl1 k hk with h | h
          · simp [Value.ownBlock] at h
          · omega
        simp only [Nat.zero_add, List.nil_append] at hown1
        clear hown hbr hk1 hl1 hcl
        by_cases hcmp : nb < gs.length
        · have hcmp' : (nb : Int) < (gs.length : Int) := by omega
          go_wp2_with fail
          rw [show (2 * (nb : Int) + 1) = ((2 * nb + 1 : Nat) : Int) by omega]
          have hbs2 := hb2.size
          have hlu := Lib.uvarint_length64 (x := U) (by omega)
          refine (uvarint_any w.heap.size _ (2 * nb + 1) (by omega) v1 _ w2 hown1 hbs2 (by omega)).mono ?_
          rintro e w3 ⟨v3, rfl, hown3, hk3, hl3⟩
          have hlk := Lib.uvarint_length64 (x := 2 * nb + 1) (by omega)
          have hlt1 := hown1.lt
          have hgcl : gc < w2.heap.size := by have := hown2.lt gc rfl; omega
          have hS : Hid (w3.ownsRow w.heap.size 5 1 v3 (Lib.uvarint U ++ Lib.uvarint (2 * nb + 1)).length (Lib.byteCells (Lib.uvarint U ++ Lib.uvarint (2 * nb + 1))) ∧
              w3.ownsRow w.heap.size 25 1 (.slice (some ⟨gc, 0, none⟩) gs.length cc) gs.length (nums (cts (U + 1) gs)) ∧ Below w.heap.size w w3 ∧ (∀ k, v3.ownBlock = some k → k ≠ gc) ∧ gc < w3.heap.size) := by
            refine ⟨?_, hk3.owns hown2 (fun k hk h => by simp [Value.ownBlock] at hk; exact hne1 k h hk.symm), hb2.trans (hk3.below w.heap.size hbs2 (fun k h => (hlt1 k h).1)), ?_, Nat.lt_of_lt_of_le hgcl hk3.size⟩
            · rw [Lib.byteCells_append, List.length_append]
              exact hown3
            · intro k hk
              rcases hl3 k hk with h | h
              · exact hne1 k h
              · omega
          clear hown1 hown2 hown3 hk3 hl3 hb2 hne1 hlt1 hgcl hbs2
          go_wp2_with fail
          rw [make8 nb (by omega)]
          have hasc : Asc (offsOf U gs) := by
            unfold offsOf Asc
            rw [List.pairwise_map]
            refine (cts_asc gs (U + 1)).imp_of_mem ?_
            intro a b ha hb hab
            have := cts_mem gs (U + 1) a ha
            omega
          have hol : (offsOf U gs).length = gs.length := by simp [offsOf, cts_length]
          have hrow0 : Hid ((w3.alloc (.cells (madeCells #[.int .u8 0] nb) 5)).ownsRow w.heap.size 5 1 (.slice (some ⟨w3.heap.size, 0, none⟩) nb nb) nb (brow [] nb)) := by
            have h := World.ownsRow_lit (base := w.heap.size) (e := 5) (size := 1) w3 (madeCells #[.int .u8 0] nb) nb hS.out.2.2.1.size (by unfold maxLen; omega) (by simp [size_madeCells])
            rw [toList_madeCells_one] at h
            have e : brow [] nb = List.replicate nb (.int .u8 0) := by
              unfold brow
              refine List.eq_replicate_iff.2 ⟨by simp, fun b hb => ?_⟩
              obtain ⟨j, _, rfl⟩ := List.mem_map.1 hb
              simp [plc, val]
            rw [e]
            exact h
          go_wp2_with fail
          go_loopw [84] (fun v84 wx => ∃ k : Nat, v84 = .int .i64 k ∧ k ≤ gs.length ∧ wx.ownsRow w.heap.size 5 1 (.slice (some ⟨w3.heap.size, 0, none⟩) nb nb) nb (brow ((offsOf U gs).take k) nb) ∧ Kept (w3.alloc (.cells (madeCells #[.int .u8 0] nb) 5)) wx (fun j => j = w3.heap.size))
            (fun v84 _ => gs.length - (intOf v84).toNat)
          case atStart => exact ⟨0, rfl, Nat.zero_le _, by simpa using hrow0.out, Kept.refl _ _⟩
          case round =>
            obtain ⟨k, rfl, hkl, hrow, hkx⟩ := hrel
            obtain ⟨s1, s2, s3, s4, s5⟩ := hS.out
            have hctr : wr.ownsRow w.heap.size 25 1 (.slice (some ⟨gc, 0, none⟩) gs.length cc) gs.length (nums (cts (U + 1) gs)) := hkx.owns (s2.alloc _) (fun j hj h => by simp [Value.ownBlock] at hj; omega)
            by_cases hlt : k < gs.length
            · obtain ⟨cv, hcv⟩ : ∃ cv, (cts (U + 1) gs)[k]? = some cv := ⟨_, List.getElem?_eq_getElem (by rw [cts_length]; exact hlt)⟩
              have hcm := cts_mem gs (U + 1) cv (List.mem_of_getElem? hcv)
              have hcc : wr.cell? ⟨gc, k, none⟩ = some (.int .u64 (cv : Nat)) := by
                rw [hctr.cellAt k (by omega)]
                unfold nums
                rw [List.getElem?_map, hcv]; rfl
              obtain ⟨o, ho⟩ : ∃ o : Nat, o = cv - U - 2 := ⟨_, rfl⟩
              have hoi : (cv : Int) - (U : Int) - 2 = (o : Int) := by omega
              have hob : o / 8 < nb := by
                have h1 := HE.out.1
                have h2 := HE.out.2
                omega
              have hobi : (o : Int) / 8 < (nb : Int) := by omega
              have htk : Hid ((offsOf U gs).take (k + 1) = (offsOf U gs).take k ++ [o]) := by
                have hk' : k < (offsOf U gs).length := by omega
                show (offsOf U gs).take (k + 1) = (offsOf U gs).take k ++ [o]
                rw [List.take_succ_eq_append_getElem hk']
                congr 2
                have := (List.getElem?_eq_some_iff.1 hcv).2
                simp only [offsOf, List.getElem_map, this, ho]
              have hrc : wr.cell? ⟨w3.heap.size, o / 8, none⟩ = some (.int .u8 (val (plc ((offsOf U gs).take k) (o / 8)) : Nat)) := by
                rw [hrow.cellAt _ (by omega)]
                simp [brow, hob]
              have hrf := hrow.frozenAt (o / 8)
              have hV := val_lt8 (plc_asc ((offsOf U gs).take k) (o / 8) (List.Pairwise.sublist (List.take_sublist _ _) hasc)) (plc_lt _ _)
              have HRW : Hid (wr.ownsRow w.heap.size 5 1 (.slice (some ⟨w3.heap.size, 0, none⟩) nb nb) nb (brow ((offsOf U gs).take k) nb)) := hrow
              have HO : Hid (o = cv - U - 2) := ho
              clear ho hrow hctr s1 s2 s3 s4 hcv
              generalize hVV : val (plc ((offsOf U gs).take k) (o / 8)) = V at *
              go_wp2_with fail
              have hgt : ∀ x ∈ (offsOf U gs).take k, x < o := by
                have h := List.Pairwise.sublist (List.take_sublist (k + 1) _) hasc
                rw [htk.out] at h
                exact Asc.last_gt h
              have hp8 : (2 : Nat) ^ (o % 8) < 256 := Nat.lt_of_lt_of_le (Nat.pow_lt_pow_right (by decide) (by omega : o % 8 < 8)) (by decide)
              have hor : bits .or .u8 (V : Int) (2 ^ (o % 8) % 256) = ((val (plc ((offsOf U gs).take k) (o / 8) ++ [o % 8]) : Nat) : Int) := by
                obtain ⟨P, hP⟩ : ∃ P : Nat, P = 2 ^ (o % 8) := ⟨_, rfl⟩
                rw [← hP] at hp8
                rw [pow_cast, ← hP, show ((P : Int) % 256) = (P : Int) by omega, u8_or_nat _ _ hV hp8, hP, ← hVV,
                  val_or (plc_asc _ _ (List.Pairwise.sublist (List.take_sublist _ _) hasc)) (plc_gt hgt)]
              have hset : (brow ((offsOf U gs).take k) nb).set (o / 8) (.int .u8 ((val (plc ((offsOf U gs).take k) (o / 8) ++ [o % 8]) : Nat) : Int)) = brow ((offsOf U gs).take k ++ [o]) nb := by
                refine List.ext_getElem (by simp [brow]) (fun j h1 h2 => ?_)
                rw [List.getElem_set]
                simp only [brow, List.getElem_map, List.getElem_range, plc_snoc]
                by_cases hj : o / 8 = j
                · subst hj; simp
                · simp [hj]
              refine ⟨⟨k + 1, rfl, by omega, ?_, ?_⟩, ?_⟩
              · rw [htk.out, hor, ← hset]
                exact (HRW.out.stored (o / 8) _).1
              · exact hkx.trans (Kept.setCell wr ⟨w3.heap.size, o / 8, none⟩ _) (fun _ _ h => h)
              · simp [intOf]; omega
            · have hke : k = gs.length := by omega
              subst hke
              have htl2 : (offsOf U gs).take gs.length = offsOf U gs := by rw [← hol, List.take_length]
              rw [htl2] at hrow
              have hsx := hkx.size
              have ho3 : wr.ownsRow w.heap.size 5 1 v3 (Lib.uvarint U ++ Lib.uvarint (2 * nb + 1)).length (Lib.byteCells (Lib.uvarint U ++ Lib.uvarint (2 * nb + 1))) := hkx.owns (s1.alloc _) (fun j hj h => by have := s1.lt j hj; omega)
              have hbx : Below w.heap.size w wr := (s3.alloc s3.size _).trans (hkx.below w.heap.size (by simp; have := s3.size; omega) (fun j h => by have := s3.size; omega))
              have hrl := hrow.lt
              have hsl := s1.lt
              clear htl2
              obtain ⟨i5, hi5, hz50, hz51, hz52⟩ := info_parts Ybaf.info5
              go_wp2_with (at_builtin; refine wpList_append_own_at _ rfl _ _ 23 rfl w.heap.size 5 i5 (.int .u8 0) 1 1 Ybaf.underlying23 hi5 hz50 hz51 hz52 rfl (by decide) _ _ _ rfl ho3 ⟨w3.heap.size, 0, none⟩ nb nb (brow (offsOf U gs) nb) rfl ?c0 ?c1 ?c2 ?c3 ?c4 ?c5 ?_)
              case c0 => simp [brow]
              case c1 => exact hrow.cells (g := w3.heap.size) rfl
              case c2 => intro u hu; obtain ⟨j, _, rfl⟩ := List.mem_map.1 hu; rfl
              case c3 => simp only [List.length_append]; unfold maxLen; omega
              case c4 => simp only [List.length_append]; omega
              case c5 => exact hbx.size
              intro v' w' hown' hgrow _ hat
              have R : Hid (w'.ownsRow w.heap.size 5 1 v' (encOf U gs).length (Lib.byteCells (encOf U gs)) ∧ w'.ownsRow w.heap.size 25 1 (.slice (some ⟨gc, 0, none⟩) gs.length cc) gs.length (nums (cts (U + 1) gs)) ∧ Below w.heap.size w w') := by
                have e2 : nbOf U gs = nb := by unfold nbOf; rw [if_neg hg0, HE.out.1, HE.out.2]
                have e3 : encOf U gs = Lib.uvarint U ++ Lib.uvarint (2 * nb + 1) ++ bmb (offsOf U gs) nb := by unfold encOf; rw [e2, if_pos hcmp]
                have e4 : Lib.byteCells (bmb (offsOf U gs) nb) = brow (offsOf U gs) nb := by
                  unfold bmb brow Lib.byteCells
                  rw [List.map_map]
                  apply List.map_congr_left
                  intro j _
                  have := val_lt8 (plc_asc (offsOf U gs) j hasc) (plc_lt _ j)
                  simp
                  omega
                refine ⟨?_, ?_, hbx.grown hgrow hbx.size (fun k hk => (hsl k hk).1)⟩
                · rw [e3, Lib.byteCells_append, e4, List.length_append]
                  have : (bmb (offsOf U gs) nb).length = nb := by simp [bmb]
                  rw [this, List.length_append]
                  exact hown'
                · exact (Kept.grown hgrow).owns hctr (fun j hj h => by simp [Value.ownBlock] at hj; exact s4 j h hj.symm)
              clear hown' hgrow hat
              go_wp2
              have e1 : lastOf U gs = E := by unfold lastOf; rw [if_neg hg0, HE.out.1]
              refine bodyPost_ret (results_tmp3 rfl _ _ _) rfl ⟨v', .slice (some ⟨gc, 0, none⟩) gs.length cc, ?_, R.out⟩
              rw [e1]; rfl
        · have hcmp' : decide ((nb : Int) < (gs.length : Int)) = false := by simp; omega
          go_wp2_with fail
          rw [show (2 * (gs.length : Int)) = ((2 * gs.length : Nat) : Int) by omega]
          have hbs2 := hb2.size
          have hlu := Lib.uvarint_length64 (x := U) (by omega)
          refine (uvarint_any w.heap.size _ (2 * gs.length) (by omega) v1 _ w2 hown1 hbs2 (by omega)).mono ?_
          rintro e w3 ⟨v3, rfl, hown3, hk3, hl3⟩
          have hlk := Lib.uvarint_length64 (x := 2 * gs.length) (by omega)
          have hlt1 := hown1.lt
          have hgcl : gc < w2.heap.size := by have := hown2.lt gc rfl; omega
          have hS : Hid (w3.ownsRow w.heap.size 5 1 v3 (Lib.uvarint U ++ Lib.uvarint (2 * gs.length)).length (Lib.byteCells (Lib.uvarint U ++ Lib.uvarint (2 * gs.length))) ∧
              w3.ownsRow w.heap.size 25 1 (.slice (some ⟨gc, 0, none⟩) gs.length cc) gs.length (nums (cts (U + 1) gs)) ∧ Below w.heap.size w w3 ∧ (∀ k, v3.ownBlock = some k → k ≠ gc) ∧ gc < w3.heap.size) := by
            refine ⟨?_, hk3.owns hown2 (fun k hk h => by simp [Value.ownBlock] at hk; exact hne1 k h hk.symm), hb2.trans (hk3.below w.heap.size hbs2 (fun k h => (hlt1 k h).1)), ?_, Nat.lt_of_lt_of_le hgcl hk3.size⟩
            · rw [Lib.byteCells_append, List.length_append]
              exact hown3
            · intro k hk
              rcases hl3 k hk with h | h
              · exact hne1 k h
              · omega
          clear hown1 hown2 hown3 hk3 hl3 hb2 hne1 hlt1 hgcl hbs2
          go_wp2
          go_loopw [19, 112] (fun v19 v112 wx => ∃ k : Nat, v112 = .int .i64 k ∧ k ≤ gs.length ∧ wx.ownsRow w.heap.size 5 1 v19 (Lib.uvarint U ++ Lib.uvarint (2 * gs.length) ++ gb (gs.take k)).length (Lib.byteCells (Lib.uvarint U ++ Lib.uvarint (2 * gs.length) ++ gb (gs.take k))) ∧
              wx.ownsRow w.heap.size 25 1 (.slice (some ⟨gc, 0, none⟩) gs.length cc) gs.length (nums (cts (U + 1) gs)) ∧ Below w.heap.size w wx ∧ (∀ k, v19.ownBlock = some k → k ≠ gc) ∧ gc < wx.heap.size ∧ (gb (gs.take k)).length ≤ 10 * k)
            (fun _ v112 _ => gs.length - (intOf v112).toNat)
          case atStart =>
            obtain ⟨h1, h2, h3, h4, h5⟩ := hS.out
            exact ⟨0, rfl, Nat.zero_le _, by simpa [gb] using h1, h2, h3, h4, h5, by simp [gb]⟩
          case round =>
            obtain ⟨k, rfl, hkl, ho1, ho2, hbx, hnx, hgx, hgbl⟩ := hrel
            by_cases hlt : k < gs.length
            · obtain ⟨g, hg⟩ : ∃ g, gs[k]? = some g := ⟨_, List.getElem?_eq_getElem hlt⟩
              have hg256 := hgs g (List.mem_of_getElem? hg)
              obtain ⟨b, o, rfl, hcell⟩ := hc.at hbx hg
              have HC : Hid (Came8 w (some ⟨b, o, none⟩) gs) := hc
              have HTK : Hid (gs.take (k + 1) = gs.take k ++ [g]) := by
                obtain ⟨hk', he⟩ := List.getElem?_eq_some_iff.1 hg
                show gs.take (k + 1) = gs.take k ++ [g]
                rw [List.take_succ_eq_append_getElem hk', he]
              have hlt1 := ho1.lt
              have hbxs := hbx.size
              have hlg := Lib.uvarint_length64 (x := g) (by omega)
              clear hc
              go_wp2_with fail
              refine (uvarint_any w.heap.size _ g (by omega) _ _ _ ho1 hbxs (by simp only [List.length_append]; omega)).mono ?_
              rintro e w4 ⟨v4, rfl, ho4, hk4, hl4⟩
              have R : Hid (w4.ownsRow w.heap.size 5 1 v4 (Lib.uvarint U ++ Lib.uvarint (2 * gs.length) ++ gb (gs.take (k + 1))).length (Lib.byteCells (Lib.uvarint U ++ Lib.uvarint (2 * gs.length) ++ gb (gs.take (k + 1)))) ∧
                  w4.ownsRow w.heap.size 25 1 (.slice (some ⟨gc, 0, none⟩) gs.length cc) gs.length (nums (cts (U + 1) gs)) ∧ Below w.heap.size w w4 ∧ (∀ k, v4.ownBlock = some k → k ≠ gc) ∧ gc < w4.heap.size ∧ (gb (gs.take (k + 1))).length ≤ 10 * (k + 1)) := by
                have eg : gb (gs.take (k + 1)) = gb (gs.take k) ++ Lib.uvarint g := by rw [HTK.out]; simp [gb]
                refine ⟨?_, hk4.owns ho2 (fun k hk h => by simp [Value.ownBlock] at hk; exact hnx k h hk.symm), hbx.trans (hk4.below w.heap.size hbxs (fun k h => (hlt1 k h).1)), ?_, Nat.lt_of_lt_of_le hgx hk4.size, by rw [eg, List.length_append]; omega⟩
                · rw [eg, ← List.append_assoc, Lib.byteCells_append, List.length_append]
                  exact ho4
                · intro k hk
                  rcases hl4 k hk with h | h
                  · exact hnx k h
                  · omega
              clear ho4 hk4 hl4 ho1 ho2
              go_wp2
              exact ⟨⟨k + 1, rfl, by omega, R.out⟩, by simp [intOf]; omega⟩
            · have hke : k = gs.length := by omega
              subst hke
              rw [List.take_length] at ho1
              go_wp2
              have e1 : lastOf U gs = E := by unfold lastOf; rw [if_neg hg0, HE.out.1]
              have e2 : nbOf U gs = nb := by unfold nbOf; rw [if_neg hg0, HE.out.1, HE.out.2]
              have e3 : encOf U gs = Lib.uvarint U ++ Lib.uvarint (2 * gs.length) ++ gb gs := by unfold encOf; rw [e2, if_neg hcmp]
              refine bodyPost_ret (results_tmp3 rfl _ _ _) rfl ⟨u19, .slice (some ⟨gc, 0, none⟩) gs.length cc, ?_, ?_, ho2, hbx⟩
              · rw [e1]; rfl
              · rw [e3]; exact ho1
end Go.Proofs.YbulkcqwcFmt

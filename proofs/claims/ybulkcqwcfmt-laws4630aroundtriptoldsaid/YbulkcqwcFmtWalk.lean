/-
  The walk of LawS4630ARoundTrip.
-/
import Derived.Test.YbulkcqwcFmtLaw
namespace Go.Proofs.YbulkcqwcFmt
open Go Go.RowKit
set_option linter.unusedVariables false

theorem make0 (n : Nat) (hn : n ≤ 1048576) (w : World) : (Instr.makeSlice 23 (.int .i64 0) (.int .i64 (n : Int))).run Ybaf.prog w = .ok (.slice (some ⟨w.heap.size, 0, none⟩) 0 n) (w.alloc (.cells (madeCells #[.int .u8 0] n) 5)) := by
  obtain ⟨i0, hi, hz0, hz1, hz2⟩ := info_parts Ybaf.info5
  have hr := run_make (P := Ybaf.prog) w 23 5 i0 (.int .u8 0) Ybaf.underlying23 hi hz0 .i64 .i64 0 n (by omega) (by omega) (by rw [hz2]; omega) (by omega)
  simp only [Int.toNat_natCast, hz1, Nat.mul_one] at hr
  exact hr

theorem Came8.kept {w w' : World} {a : Option Addr} {gs : List Nat} (h : Came8 w a gs) (k : Kept w w' (fun _ => False)) : Came8 w' a gs := by
  rcases h with h | ⟨b, o, rfl, hc⟩
  · exact .inl h
  · refine .inr ⟨b, o, rfl, fun j g hj => ?_⟩
    have := hc j g hj
    exact (World.cell?_of_block (w := w) (a := ⟨b, o + j, none⟩) (k.block b (World.block_lt_of_cell? w _ this) (fun h => h))).trans this

theorem src8 {w : World} {a : Option Addr} {gs : List Nat} (h : Came8 w a gs) (cap : Nat) : Src Ybaf.prog 1 23 (.slice a gs.length cap) gs.length (gs.map fun g => Value.int .u8 (g : Nat)) w := by
  rcases h with rfl | ⟨b, o, rfl, hc⟩
  · cases a with
    | none => exact Src.ofNil w Ybaf.underlying23 cap
    | some x => exact Src.ofSlice w Ybaf.underlying23 x 0 cap [] rfl (fun j u hj => by simp at hj) (fun u hu => by cases hu)
  · refine Src.ofSlice w Ybaf.underlying23 ⟨b, o, none⟩ gs.length cap _ (by simp) (fun j u hj => ?_) (fun u hu => ?_)
    · rw [List.getElem?_map] at hj
      obtain ⟨g, hg, rfl⟩ := Option.map_eq_some_iff.1 hj
      simpa [Addr.add_lit] using hc j g hg
    · obtain ⟨g, _, rfl⟩ := List.mem_map.1 hu; rfl

theorem gb_len : ∀ (gs : List Nat), (∀ g ∈ gs, g < 256) → (gb gs).length ≤ 10 * gs.length
  | [], _ => by simp [gb]
  | g :: gs, h => by
    have ih := gb_len gs (fun x hx => h x (List.mem_cons_of_mem _ hx))
    have h1 := Lib.uvarint_length64 (x := g) (by have := h g (by simp); omega)
    have e : gb (g :: gs) = Lib.uvarint g ++ gb gs := by simp [gb]
    rw [e, List.length_append, List.length_cons]
    omega
theorem enc_len (U : Nat) (gs : List Nat) (hU : U < 4294967296) (hk : gs.length ≤ 1024) (hgs : ∀ g ∈ gs, g < 256) : 1 ≤ (encOf U gs).length ∧ (encOf U gs).length ≤ 20000 := by
  have h1 := Lib.uvarint_length64 (x := U) (by omega)
  have h2 := Lib.uvarint_pos U
  have h3 := gb_len gs hgs
  have h4 := Lib.uvarint_length64 (x := 2 * gs.length) (by omega)
  unfold encOf
  split
  · next h =>
    have h5 := Lib.uvarint_length64 (x := 2 * nbOf U gs + 1) (by omega)
    have h6 : (bmb (offsOf U gs) (nbOf U gs)).length = nbOf U gs := by simp [bmb]
    rw [List.length_append, List.length_append, h6]
    omega
  · rw [List.length_append, List.length_append]
    omega

set_option maxHeartbeats 4000000 in
set_option maxRecDepth 100000 in
theorem walk_small (U slack : Nat) (gs : List Nat) (a : Option Addr) (cap : Nat) (ts : List Nat) (ta : Option Addr) (tcap : Nat) (w : World) (hU : U < 4294967296) (hsl : slack < 256) (hgs : ∀ g ∈ gs, g < 256) (hk : gs.length ≤ 1024) (hc : Came8 w a gs)
    (hts : ∀ g ∈ ts, g < 256) (htk : ts.length ≤ 1024) (htc : Came8 w ta ts) (hT : Tab w) (h0 : 0 < w.heap.size) :
    Calls Ybaf.prog 3 #[.int .u32 U, .slice a gs.length cap, .int .u8 slack, .slice ta ts.length tcap] w fun e w' => e = .returned (.bool true) ∧ Below w.heap.size w w' := by
  obtain ⟨i5, hi5, hz50, hz51, hz52⟩ := info_parts Ybaf.info5
  have hg1 : decide ((1024 : Int) < (gs.length : Int)) = false := by simp; omega
  have ht1 : decide ((1024 : Int) < (ts.length : Int)) = false := by simp; omega
  go_enter Ybaf.func3, Ybaf.ntmps3
  go_wp2_with fail
  refine (build_c U gs a cap w hU hgs hk hc).mono ?_
  rintro e w1 ⟨v1, v2, rfl, ho1, ho2, hb1⟩
  obtain ⟨hel1, hel2⟩ := enc_len U gs hU hk hgs
  obtain ⟨g1, c1, rfl⟩ : ∃ g1 c1, v1 = .slice (some ⟨g1, 0, none⟩) (encOf U gs).length c1 := by
    rcases ho1.2 with ⟨_, hn⟩ | ⟨g, cap, cur, rfl, _⟩
    · omega
    · exact ⟨_, _, rfl⟩
  have hb1s := hb1.size
  go_wp2_with fail
  rw [show ((encOf U gs).length : Int) + (ts.length : Int) = (((encOf U gs).length + ts.length : Nat) : Int) by omega, make0 _ (by omega)]
  have hdat : Hid ((w1.alloc (.cells (madeCells #[.int .u8 0] ((encOf U gs).length + ts.length)) 5)).ownsRow w.heap.size 5 1 (.slice (some ⟨w1.heap.size, 0, none⟩) 0 ((encOf U gs).length + ts.length)) 0 []) :=
    World.ownsRow_made w1 _ _ hb1s (by unfold maxLen; omega) (by simp [size_madeCells])
  go_wp2_with (at_builtin; refine wpList_append_own_at _ rfl _ _ 23 rfl w.heap.size 5 i5 (.int .u8 0) 1 1 Ybaf.underlying23 hi5 hz50 hz51 hz52 rfl (by decide) _ _ _ rfl hdat.out ⟨g1, 0, none⟩ _ _ (Lib.byteCells (encOf U gs)) rfl ?c0 ?c1 ?c2 ?c3 ?c4 ?c5 ?_)
  case c0 => simp [Lib.byteCells]
  case c1 => exact (ho1.alloc _).cells (g := g1) rfl
  case c2 => intro u hu; obtain ⟨b, _, rfl⟩ := List.mem_map.1 hu; rfl
  case c3 => unfold maxLen; omega
  case c4 => omega
  case c5 => simp; omega
  intro v3 w3 ho3 hg3 _ hat3
  have hg1 := ho1.lt g1 rfl
  have hlt2 := ho2.lt
  have K3 : Hid (Kept w1 w3 (fun _ => False)) := ((Kept.alloc w1 _ (fun _ => False)).wide (fun _ h => h)).trans (Kept.grown hg3) (fun i hi h => by simp [Value.ownBlock] at h; omega)
  have hs3 : w1.heap.size < w3.heap.size := by have := hg3.size; simp at this; omega
  have hv3 : ∀ k, v3.ownBlock = some k → w1.heap.size ≤ k := by
    intro k hk
    rcases hat3 with h | h
    · rw [h] at hk; simp [Value.ownBlock] at hk; omega
    · rw [h] at hk; simp at hk; omega
  clear hg3 hat3 hdat
  have hsrc : Hid (Src Ybaf.prog 1 23 (.slice ta ts.length tcap) ts.length (ts.map fun g => Value.int .u8 (g : Nat)) w3) := src8 (htc.kept ((Kept.ofBelow hb1 (fun _ => False)).trans K3.out (fun _ _ h => h))) tcap
  go_wp2_with (at_builtin; refine wpList_append_own_src _ rfl _ _ 23 23 rfl w.heap.size 5 i5 (.int .u8 0) 1 1 Ybaf.underlying23 hi5 hz50 hz51 hz52 rfl (by decide) _ _ _ rfl ho3 _ ts.length (ts.map fun g => Value.int .u8 (g : Nat)) rfl hsrc.out ?c3 ?c4 ?c5 ?_)
  case c3 => unfold maxLen; omega
  case c4 => omega
  case c5 => omega
  intro v4 w4 ho4 hg4 hat4
  obtain ⟨G, c4, cur4, rfl, hG1, hG2, hG3, hG4⟩ : ∃ G c4 cur4, v4 = .slice (some ⟨G, 0, none⟩) ((encOf U gs).length + ts.length) c4 ∧ w.heap.size ≤ G ∧ w4.heap[G]? = some (.cells cur4 5 (0, 0)) ∧ (encOf U gs).length + ts.length ≤ c4 ∧ c4 ≤ maxLen := by
    rcases ho4.2 with ⟨_, hn⟩ | ⟨g, cap, cur, rfl, h1, h2, h3, h4, _⟩
    · omega
    · exact ⟨g, cap, cur, rfl, h1, h2, h3, h4⟩
  have hlast : lastOf U gs ≤ U + 1 + 256 * 1024 := by
    have := endc_le gs (U + 1) hgs
    unfold lastOf
    split
    · omega
    · omega
  have K4 : Kept w1 w4 (fun _ => False) := K3.out.trans (Kept.grown hg4) (fun i hi h => by have := hv3 i h; omega)
  have hs4 := K4.size
  have hGl := lt_of_block hG2
  have hT4 : Tab w4 := (hT.below hb1 h0).kept K4 (by omega) (fun h => h)
  clear hg4 hat4
  go_wp2_with fail
  rw [show (((lastOf U gs : Nat) : Int) + (slack : Int)) = ((lastOf U gs + slack : Nat) : Int) by omega]
  have hdec : Dec (w4.alloc (.cells #[.slice (some ⟨G, 0, none⟩) ((encOf U gs).length + ts.length) c4, .int .i64 0, .int .u64 ((lastOf U gs + slack : Nat) : Int), .pointer none, .slice none 0 0, .slice none 0 0] 33)) w4.heap.size G ((encOf U gs).length + ts.length) c4 0 (lastOf U gs + slack) :=
    ⟨heap_alloc_new _ _, by omega, by simp; omega⟩
  have hby : Bytes (w4.alloc (.cells #[.slice (some ⟨G, 0, none⟩) ((encOf U gs).length + ts.length) c4, .int .i64 0, .int .u64 ((lastOf U gs + slack : Nat) : Int), .pointer none, .slice none 0 0, .slice none 0 0] 33)) G (encOf U gs ++ ts.map Nat.toUInt8) := by
    refine Bytes.kept (w := w4) ?_ (Kept.alloc w4 _ (fun _ => False)) hGl (fun h => h)
    intro j hj
    have hcell := ho4.cellAt j (by simp at hj; omega)
    have e : Lib.byteCells (encOf U gs) ++ ts.map (fun g => Value.int .u8 (g : Nat)) = Lib.byteCells (encOf U gs ++ ts.map Nat.toUInt8) := by
      rw [Lib.byteCells_append]
      congr 1
      unfold Lib.byteCells
      rw [List.map_map]
      apply List.map_congr_left
      intro g hg
      have := hts g hg
      simp
      omega
    rw [e] at hcell
    rw [hcell]
    unfold Lib.byteCells
    rw [List.getElem?_map, List.getElem?_eq_getElem hj]
    rfl
  refine (seen_any w4.heap.size G ((encOf U gs).length + ts.length) c4 U slack gs _ (ts.map Nat.toUInt8) hdec hby (by simp) (by omega) hG3 hG4 hgs hk hU hsl (hT4.kept (Kept.alloc w4 _ (fun _ => False)) (by omega) (fun h => h)) (by omega) (by omega)).mono ?_
  rintro e w6 ⟨f, i, q, ws, rfl, hls, hgood, hd6, hk6⟩
  obtain ⟨fa, fn, fc, rfl⟩ := hls.form
  obtain ⟨d0, d1, d2, d3, _⟩ := hd6.cells
  have K6 : Kept w1 w6 (fun k => k = w4.heap.size) := ((K4.wide (fun _ h => h.elim)).trans (Kept.alloc w4 _ (fun _ => False)) (fun _ _ h => h.elim)).trans hk6 (fun _ _ h => h)
  have hs6 := K6.size
  have ho6 : w6.ownsRow w.heap.size 25 1 v2 gs.length (nums (cts (U + 1) gs)) := K6.owns ho2 (fun k hk h => by have := hlt2 k hk; omega)
  have hB6 : Below w.heap.size w w6 := hb1.trans (K6.below w.heap.size hb1s (fun k h => by omega))
  have hT6 : Tab w6 := hT.below hB6 h0
  have hcl := cts_length gs (U + 1)
  have hd6s : w4.heap.size < w6.heap.size := hd6.size
  clear hdec hby hT4 K4 hk6 ho1 ho3 ho4
  go_wp2_with fail
  refine (asingles_ls (w := w6.alloc _) (hls.below ((Below.refl _ w6).alloc (Nat.le_refl _) _)) hgood U ⟨_, _, _, rfl⟩ (by omega) (hT6.below ((Below.refl _ w6).alloc (Nat.le_refl _) _) (by omega)) (by simp)).mono ?_
  rintro e w8 ⟨v8, rfl, ho8, hb8⟩
  go_wp2_with fail
  have hb8' : Below w6.heap.size w6 w8 := ((Below.refl _ w6).alloc (Nat.le_refl _) _).trans (hb8.mono (by simp))
  have ho68 : w8.ownsRow w.heap.size 25 1 v2 gs.length (nums (cts (U + 1) gs)) := (Kept.ofBelow hb8' (fun _ => False)).owns ho6 (fun _ _ h => h)
  have hz : nums (cts (U + 1) gs) = ((cts (U + 1) gs).map fun c => ((c : Nat) : Int)).map (Value.int .u64) := by simp [nums]
  rw [hcl, hz] at ho8
  rw [hz] at ho68
  refine (equal_same _ _ gs.length v8 v2 _ w8 (by omega) ho8 ho68).mono ?_
  rintro e w9 ⟨rfl, qq, rfl⟩
  go_wp2
  go_ret
  exact ⟨rfl, bdrew (hB6.trans (hb8'.mono (by omega))) qq⟩
end Go.Proofs.YbulkcqwcFmt

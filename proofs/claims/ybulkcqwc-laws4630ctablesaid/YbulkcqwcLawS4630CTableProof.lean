/-
  The proof of 'Rows.LawS4630CTableSaid'. The frame (the row's step) is the guide's own; the walk is ours.
-/
import Derived.Test.YbulkcqwcTab
import Derived.WalkKit
import Derived.ProofKit
import Derived.OpenShut
import Derived.ShutString
import Derived.ChangeOld
import Derived.Below
import Derived.Outline
namespace Go.Proofs.Ybulkcqwc.lawS4630CTable
open Go.ChangeShapes Go.WideShapes Go.ChangeAt Go.RowKit Go.Maps
open Go.ChangeMaps (open_string shut_string)
set_option linter.unusedVariables false

/-- What the walk is told of a slice of integers that came in. -/
def IsRow (k : IntKind) (w : World) (a : Option Addr) (len cap : Nat) (zs : List Int) : Prop :=
  (a = none ∧ len = 0 ∧ cap = 0 ∧ zs = []) ∨
  ∃ x, a = some x ∧ len ≤ cap ∧ cap ≤ maxLen ∧ zs.length = cap ∧ (∀ i, i < zs.length → w.cell? (x.add i) = some (.int k (zs.getD i 0))) ∧ ∀ n ∈ zs, (Lit.int k n).wf = true

theorem bytes_map (l : List UInt8) : Lib.byteCells l = (l.map fun b => (b.toNat : Int)).map (Value.int .u8) := by simp [Lib.byteCells]

theorem rowed_of {w : World} {a : Option Addr} {len cap : Nat} {zs : List Int} (h : IsRow .u8 w a len cap zs) :
    ((zs.take len).map (Value.int .u8)).length = len ∧ Rowed w a ((zs.take len).map (Value.int .u8)) := by
  rcases h with ⟨rfl, rfl, rfl, rfl⟩ | ⟨x, rfl, hl, hm, hz, hc, _⟩
  · exact ⟨rfl, .inl ⟨rfl, rfl⟩⟩
  · refine ⟨by simp; omega, .inr ⟨x, rfl, fun j u hj => ?_⟩⟩
    have hlt : j < len := by
      have := (List.getElem?_eq_some_iff.1 hj).1
      simp at this; omega
    rw [hc j (by omega), ← hj]
    simp [hlt, List.getD, show j < zs.length by omega]

theorem row_lt {w : World} {a : Option Addr} {news : List Value} (h : Rowed w a news) {w' : World} (hb : Below w.heap.size w w') : Rowed w' a news := by
  rcases h with h | ⟨x, rfl, hc⟩
  · exact .inl h
  · exact .inr ⟨x, rfl, fun j u hj => (hb.cell (World.block_lt_of_cell? w _ (hc j u hj))).trans (hc j u hj)⟩

theorem map_below {w w' : World} {B b n : Nat} {D : DataW Unit} (hb : Below B w w') (hlt : b < B) (h : w.ownsMap Yba.prog 9 (plainElem Yba.prog 33) b n D) : w'.ownsMap Yba.prog 9 (plainElem Yba.prog 33) b n D := by
  obtain ⟨es, clock, h1, r⟩ := h
  exact ⟨es, clock, (hb.block b hlt).trans h1, r⟩

theorem toList_data (s : ByteArray) : s.toList = s.data.toList := ByteArray.toList_eq s
theorem eq_bytes {s t : ByteArray} (h : (s.toList == t.toList) = true) : s.data.toList = t.data.toList := by
  have := eq_of_beq h
  rw [toList_data, toList_data] at this
  exact this
theorem ne_bytes {s t : ByteArray} (h : (s.toList == t.toList) = false) : Lit.string t.data.toList ≠ Lit.string s.data.toList := by
  intro e
  have e' : t.data.toList = s.data.toList := by simpa using e
  rw [toList_data, toList_data, e'] at h
  simp at h

set_option maxHeartbeats 4000000 in
set_option maxRecDepth 100000 in
theorem walkA (a0 : Option Addr) (len0 cap0 : Nat) (z0 : List Int) (a1 : ByteArray) (a2 : Option Addr) (len2 cap2 : Nat) (ss : List ByteArray) (a3 : Option Addr) (len3 cap3 : Nat) (zs : List Int) (w : World)
    (w0 : IsRow .u8 w a0 len0 cap0 z0) (w2 : IsStrs w a2 len2 ss) (w3 : IsU64s w a3 len3 zs) (hn0 : len0 ≤ 1048576) (hn1 : a1.size ≤ 1048576) (hn2 : len2 ≤ 4096) (hn3 : len3 ≤ 4096) (hcmp : len3 < len2) :
    Calls Yba.prog 4 #[.slice a0 len0 cap0, .string a1, .slice a2 len2 cap2, .slice a3 len3 cap3] w fun e w' => e = .returned (.bool true) ∧ Below w.heap.size w w' := by
  obtain ⟨hl0, hr0⟩ := rowed_of w0
  have HL : Hid (((z0.take len0).map (Value.int .u8)).length = len0) := hl0
  have HR : Hid (Rowed w a0 ((z0.take len0).map (Value.int .u8))) := hr0
  have hone := ints_oneCell .u8 (z0.take len0)
  generalize hX : (z0.take len0).map (Value.int .u8) = X at HL HR hone
  have HX : Hid ((z0.take len0).map (Value.int .u8) = X) := hX
  have HS : Hid (IsStrs w a2 len2 ss) := w2
  have HU : Hid (IsU64s w a3 len3 zs) := w3
  clear w0 hl0 hr0 hX w2 w3
  have q28 := eql28
  have hmm := make28
  go_enter Yba.func4, Yba.ntmps4
  go_wp2
  go_loopw [11, 12, 13] (fun s11 s12 s13 wr => ∃ (k wv : Nat) (fnd : Bool) (D : DataW Unit), k ≤ len3 ∧ s13 = .int .i64 k ∧ s11 = .int .u64 wv ∧ s12 = .bool fnd ∧ wv < 18446744073709551616 ∧
      wr.ownsMap Yba.prog 9 (plainElem Yba.prog 33) w.heap.size k D ∧ Below w.heap.size w wr ∧ TabInv D (.string a1.data.toList) wv fnd)
    (fun _ _ i _ => len3 - (intOf i).toNat)
  case atStart => exact ⟨0, 0, false, .map [], Nat.zero_le _, rfl, rfl, rfl, by omega, World.ownsMap_made _ _ _ _, (Below.refl _ _).alloc (Nat.le_refl _) _, tab_start _⟩
  case round =>
    obtain ⟨k, wv, fnd, D, hk, rfl, rfl, rfl, hwv, hmap, hnx, htab⟩ := hrel
    by_cases hlt : k < len3
    · obtain ⟨b2, o2, rfl, hb2, hc2⟩ := strs_at HS.out (by omega)
      obtain ⟨b3, o3, rfl, hb3, hc3⟩ := u64s_at HU.out (by omega)
      obtain ⟨s, hs, g2⟩ := hc2 k (by omega)
      obtain ⟨x, hx, g3⟩ := hc3 k (by omega)
      rw [← hnx.cell (p := ⟨b2, o2 + k, none⟩) hb2] at g2
      rw [← hnx.cell (p := ⟨b3, o3 + k, none⟩) hb3] at g3
      clear hc2 hc3 HS HU
      obtain ⟨w1, hrun, hmap1, hgrow1⟩ := hmap.drew.update law9 Yba.underlying28 (by unfold maxLen; omega) (WideMaps.keyOf_string_mk Yba.underlying9 hs) (plainElem_int Yba.underlying33 (a := (x : Int)) (WalkArith.wf_u64 (by omega)))
      have hsz := hnx.size
      have hnx1 : Below w.heap.size w w1 := hnx.drew.grown hgrow1 (by exact hnx.size) (fun j hj => by cases hj; exact Nat.le_refl _)
      have h2 : w1.cell? ⟨b2, o2 + k, none⟩ = some (.string s) := by rw [hnx1.cell (p := ⟨b2, o2 + k, none⟩) hb2, ← hnx.cell (p := ⟨b2, o2 + k, none⟩) hb2]; exact g2
      have h3 : w1.cell? ⟨b3, o3 + k, none⟩ = some (.int .u64 x) := by rw [hnx1.cell (p := ⟨b3, o3 + k, none⟩) hb3, ← hnx.cell (p := ⟨b3, o3 + k, none⟩) hb3]; exact g3
      have HM : Hid (IsMap D) := hmap.isMap
      clear hgrow1 hnx hmap
      go_wp2_with fail
      go_region
      cases he : (s.toList == a1.toList) with
      | true =>
        have es : s.data.toList = a1.data.toList := eq_bytes he
        have T := tab_same (l := a1.data.toList) HM.out x
        rw [es] at hmap1
        clear htab
        have Hes : Hid (s.data.toList = a1.data.toList) := es
        clear es
        go_wp2
        go_roundw
        case rel => exact ⟨k + 1, x, true, _, by omega, by go_num, rfl, rfl, hx, hmap1, hnx1, T⟩
        case measure => simp [intOf]; omega
      | false =>
        have T := tab_other (kl := .string s.data.toList) htab (ne_bytes he) (.lit (.int .u64 x))
        clear htab
        go_wp2
        go_roundw
        case rel => exact ⟨k + 1, wv, fnd, _, by omega, by go_num, rfl, rfl, hwv, hmap1, hnx1, T⟩
        case measure => simp [intOf]; omega
    · have hke : k = len3 := by omega
      subst hke
      clear HS HU
      go_wp2_with (at_len; refine wpList_len_own _ rfl _ 28 rfl 9 33 Yba.underlying28 _ w.heap.size _ D rfl hmap ?_)
      refine (clone_any a0 len0 cap0 X _ HL.out hn0 (row_lt HR.out hnx) hone).mono ?_
      rintro e wa ⟨va, rfl, howna, hba⟩
      obtain ⟨aa, ca, rfl⟩ := owns_form howna
      have hsr := hnx.size
      have hlr := hmap.lt
      have hsa := hba.size
      go_wp2_with fail
      refine (node_table wr.heap.size len0 wa.heap.size w.heap.size _ a1 hn1 (.slice aa len0 ca) X _ D (heap_alloc_new wa (encObj (.slice aa len0 ca) (.map (some w.heap.size)))) ((map_below hba hlr hmap).alloc _) (howna.alloc _) (by simp; omega) (by omega) wv hwv (tab_at htab)).mono ?_
      rintro e wb ⟨rfl, vb, hEb, hownb, hkb, hlb⟩
      have hbb : Below wr.heap.size wr wb := by
        refine hba.trans (((Kept.alloc wa _ _).trans hkb (fun i hi h => h)).below _ hsa (fun k hk => ?_))
        rcases hk with rfl | hk
        · exact hsa
        · exact (howna.lt k hk).1
      have hsb : wa.heap.size + 1 ≤ wb.heap.size := by have := hkb.size; simp at this; omega
      have hnb : Below w.heap.size w wb := hnx.trans (hbb.mono hsr)
      clear hkb hlb howna hba
      go_wp2_with fail
      refine (clone_any a0 len0 cap0 X _ HL.out hn0 (row_lt HR.out hnb) hone).mono ?_
      rintro e wc ⟨vc, rfl, hownc, hbc⟩
      obtain ⟨ac, cc, rfl⟩ := owns_form hownc
      have hsc := hbc.size
      go_wp2_with fail
      refine (model_any wb.heap.size len0 wv hwv (.slice ac len0 cc) X _ hownc hsc (by omega)).mono ?_
      rintro e wd ⟨vd, rfl, hownd, hkd, hld⟩
      have hbd : Below wb.heap.size wb wd := hbc.trans (hkd.below _ hsc (fun k hk => (hownc.lt k hk).1))
      have hsd := hkd.size
      have hlen := Lib.uvarint_length64 hwv
      have hEd : wd.heap[wa.heap.size]? = some (encObj vb (.map (some w.heap.size))) := (hbd.block _ (by omega)).trans hEb
      have hownf : wd.ownsRow wr.heap.size 5 1 vb (len0 + (Lib.uvarint wv).length) (X ++ Lib.byteCells (Lib.uvarint wv)) := (Kept.ofBelow hbd (fun _ => False)).owns hownb (fun _ _ h => h)
      have hmapd := map_below hbd (by omega) (map_below hbb hlr hmap)
      have hend : Below w.heap.size w wd := hnb.trans (hbd.mono (by omega))
      clear hkd hld hownc hbc hbd hEb hownb hnb hbb hmap hnx
      obtain ⟨e0, e2, e3, _⟩ := enc_cells hEd
      clear hEd
      obtain ⟨av, cv, rfl⟩ := owns_form hownf
      obtain ⟨ae, ce, rfl⟩ := owns_form hownd
      have hXX : X ++ Lib.byteCells (Lib.uvarint wv) = (z0.take len0 ++ (Lib.uvarint wv).map (fun b => (b.toNat : Int))).map (Value.int .u8) := by
        rw [bytes_map, List.map_append, HX.out]
      rw [hXX] at hownf hownd
      clear hXX
      go_wp2_with fail
      refine (equal_same wr.heap.size wb.heap.size _ _ _ _ _ (by omega) hownf hownd).mono ?_
      rintro e wf ⟨rfl, q, rfl⟩
      clear hownf hownd
      have hmapq : (wd.drewN q).ownsMap Yba.prog 9 (plainElem Yba.prog 33) w.heap.size _ D := hmapd
      have hendq : Below w.heap.size w (wd.drewN q) := hend.trans (Kept.below (Kept.drewN _ _ (fun _ => False)) _ (by omega) (fun _ h => h.elim))
      have hl28 := hmapq.len Yba.underlying28 3
      have hhas := htab.2.1
      clear htab
      cases fnd with
      | true =>
        clear hhas
        go_wp2
        go_ret
        exact ⟨rfl, hendq⟩
      | false =>
        go_wp2_with (at_lookup; refine wpList_lookup_own_ok_int _ rfl _ _ 28 rfl 9 33 .u64 law9 Yba.underlying28 Yba.underlying33 (zero33 _) w.heap.size _ D rfl hmapq _ (.string a1.data.toList) rfl (WideMaps.keyOf_string_mk Yba.underlying9 (by unfold maxLen; omega)) ?_; intro c _ _)
        go_ret
        exact ⟨rfl, hendq⟩

set_option maxHeartbeats 4000000 in
set_option maxRecDepth 100000 in
theorem walkB (a0 : Option Addr) (len0 cap0 : Nat) (z0 : List Int) (a1 : ByteArray) (a2 : Option Addr) (len2 cap2 : Nat) (ss : List ByteArray) (a3 : Option Addr) (len3 cap3 : Nat) (zs : List Int) (w : World)
    (w0 : IsRow .u8 w a0 len0 cap0 z0) (w2 : IsStrs w a2 len2 ss) (w3 : IsU64s w a3 len3 zs) (hn0 : len0 ≤ 1048576) (hn1 : a1.size ≤ 1048576) (hn2 : len2 ≤ 4096) (hn3 : len3 ≤ 4096) (hcmp : len2 ≤ len3) :
    Calls Yba.prog 4 #[.slice a0 len0 cap0, .string a1, .slice a2 len2 cap2, .slice a3 len3 cap3] w fun e w' => e = .returned (.bool true) ∧ Below w.heap.size w w' := by
  obtain ⟨hl0, hr0⟩ := rowed_of w0
  have HL : Hid (((z0.take len0).map (Value.int .u8)).length = len0) := hl0
  have HR : Hid (Rowed w a0 ((z0.take len0).map (Value.int .u8))) := hr0
  have hone := ints_oneCell .u8 (z0.take len0)
  generalize hX : (z0.take len0).map (Value.int .u8) = X at HL HR hone
  have HX : Hid ((z0.take len0).map (Value.int .u8) = X) := hX
  have HS : Hid (IsStrs w a2 len2 ss) := w2
  have HU : Hid (IsU64s w a3 len3 zs) := w3
  clear w0 hl0 hr0 hX w2 w3
  have q28 := eql28
  have hmm := make28
  go_enter Yba.func4, Yba.ntmps4
  go_wp2
  go_loopw [11, 12, 13] (fun s11 s12 s13 wr => ∃ (k wv : Nat) (fnd : Bool) (D : DataW Unit), k ≤ len2 ∧ s13 = .int .i64 k ∧ s11 = .int .u64 wv ∧ s12 = .bool fnd ∧ wv < 18446744073709551616 ∧
      wr.ownsMap Yba.prog 9 (plainElem Yba.prog 33) w.heap.size k D ∧ Below w.heap.size w wr ∧ TabInv D (.string a1.data.toList) wv fnd)
    (fun _ _ i _ => len2 - (intOf i).toNat)
  case atStart => exact ⟨0, 0, false, .map [], Nat.zero_le _, rfl, rfl, rfl, by omega, World.ownsMap_made _ _ _ _, (Below.refl _ _).alloc (Nat.le_refl _) _, tab_start _⟩
  case round =>
    obtain ⟨k, wv, fnd, D, hk, rfl, rfl, rfl, hwv, hmap, hnx, htab⟩ := hrel
    by_cases hlt : k < len2
    · obtain ⟨b2, o2, rfl, hb2, hc2⟩ := strs_at HS.out (by omega)
      obtain ⟨b3, o3, rfl, hb3, hc3⟩ := u64s_at HU.out (by omega)
      obtain ⟨s, hs, g2⟩ := hc2 k (by omega)
      obtain ⟨x, hx, g3⟩ := hc3 k (by omega)
      rw [← hnx.cell (p := ⟨b2, o2 + k, none⟩) hb2] at g2
      rw [← hnx.cell (p := ⟨b3, o3 + k, none⟩) hb3] at g3
      clear hc2 hc3 HS HU
      obtain ⟨w1, hrun, hmap1, hgrow1⟩ := hmap.drew.update law9 Yba.underlying28 (by unfold maxLen; omega) (WideMaps.keyOf_string_mk Yba.underlying9 hs) (plainElem_int Yba.underlying33 (a := (x : Int)) (WalkArith.wf_u64 (by omega)))
      have hsz := hnx.size
      have hnx1 : Below w.heap.size w w1 := hnx.drew.grown hgrow1 (by exact hnx.size) (fun j hj => by cases hj; exact Nat.le_refl _)
      have h2 : w1.cell? ⟨b2, o2 + k, none⟩ = some (.string s) := by rw [hnx1.cell (p := ⟨b2, o2 + k, none⟩) hb2, ← hnx.cell (p := ⟨b2, o2 + k, none⟩) hb2]; exact g2
      have h3 : w1.cell? ⟨b3, o3 + k, none⟩ = some (.int .u64 x) := by rw [hnx1.cell (p := ⟨b3, o3 + k, none⟩) hb3, ← hnx.cell (p := ⟨b3, o3 + k, none⟩) hb3]; exact g3
      have HM : Hid (IsMap D) := hmap.isMap
      clear hgrow1 hnx hmap
      go_wp2_with fail
      go_region
      cases he : (s.toList == a1.toList) with
      | true =>
        have es : s.data.toList = a1.data.toList := eq_bytes he
        have T := tab_same (l := a1.data.toList) HM.out x
        rw [es] at hmap1
        clear htab
        have Hes : Hid (s.data.toList = a1.data.toList) := es
        clear es
        go_wp2
        go_roundw
        case rel => exact ⟨k + 1, x, true, _, by omega, by go_num, rfl, rfl, hx, hmap1, hnx1, T⟩
        case measure => simp [intOf]; omega
      | false =>
        have T := tab_other (kl := .string s.data.toList) htab (ne_bytes he) (.lit (.int .u64 x))
        clear htab
        go_wp2
        go_roundw
        case rel => exact ⟨k + 1, wv, fnd, _, by omega, by go_num, rfl, rfl, hwv, hmap1, hnx1, T⟩
        case measure => simp [intOf]; omega
    · have hke : k = len2 := by omega
      subst hke
      clear HS HU
      go_wp2_with (at_len; refine wpList_len_own _ rfl _ 28 rfl 9 33 Yba.underlying28 _ w.heap.size _ D rfl hmap ?_)
      refine (clone_any a0 len0 cap0 X _ HL.out hn0 (row_lt HR.out hnx) hone).mono ?_
      rintro e wa ⟨va, rfl, howna, hba⟩
      obtain ⟨aa, ca, rfl⟩ := owns_form howna
      have hsr := hnx.size
      have hlr := hmap.lt
      have hsa := hba.size
      go_wp2_with fail
      refine (node_table wr.heap.size len0 wa.heap.size w.heap.size _ a1 hn1 (.slice aa len0 ca) X _ D (heap_alloc_new wa (encObj (.slice aa len0 ca) (.map (some w.heap.size)))) ((map_below hba hlr hmap).alloc _) (howna.alloc _) (by simp; omega) (by omega) wv hwv (tab_at htab)).mono ?_
      rintro e wb ⟨rfl, vb, hEb, hownb, hkb, hlb⟩
      have hbb : Below wr.heap.size wr wb := by
        refine hba.trans (((Kept.alloc wa _ _).trans hkb (fun i hi h => h)).below _ hsa (fun k hk => ?_))
        rcases hk with rfl | hk
        · exact hsa
        · exact (howna.lt k hk).1
      have hsb : wa.heap.size + 1 ≤ wb.heap.size := by have := hkb.size; simp at this; omega
      have hnb : Below w.heap.size w wb := hnx.trans (hbb.mono hsr)
      clear hkb hlb howna hba
      go_wp2_with fail
      refine (clone_any a0 len0 cap0 X _ HL.out hn0 (row_lt HR.out hnb) hone).mono ?_
      rintro e wc ⟨vc, rfl, hownc, hbc⟩
      obtain ⟨ac, cc, rfl⟩ := owns_form hownc
      have hsc := hbc.size
      go_wp2_with fail
      refine (model_any wb.heap.size len0 wv hwv (.slice ac len0 cc) X _ hownc hsc (by omega)).mono ?_
      rintro e wd ⟨vd, rfl, hownd, hkd, hld⟩
      have hbd : Below wb.heap.size wb wd := hbc.trans (hkd.below _ hsc (fun k hk => (hownc.lt k hk).1))
      have hsd := hkd.size
      have hlen := Lib.uvarint_length64 hwv
      have hEd : wd.heap[wa.heap.size]? = some (encObj vb (.map (some w.heap.size))) := (hbd.block _ (by omega)).trans hEb
      have hownf : wd.ownsRow wr.heap.size 5 1 vb (len0 + (Lib.uvarint wv).length) (X ++ Lib.byteCells (Lib.uvarint wv)) := (Kept.ofBelow hbd (fun _ => False)).owns hownb (fun _ _ h => h)
      have hmapd := map_below hbd (by omega) (map_below hbb hlr hmap)
      have hend : Below w.heap.size w wd := hnb.trans (hbd.mono (by omega))
      clear hkd hld hownc hbc hbd hEb hownb hnb hbb hmap hnx
      obtain ⟨e0, e2, e3, _⟩ := enc_cells hEd
      clear hEd
      obtain ⟨av, cv, rfl⟩ := owns_form hownf
      obtain ⟨ae, ce, rfl⟩ := owns_form hownd
      have hXX : X ++ Lib.byteCells (Lib.uvarint wv) = (z0.take len0 ++ (Lib.uvarint wv).map (fun b => (b.toNat : Int))).map (Value.int .u8) := by
        rw [bytes_map, List.map_append, HX.out]
      rw [hXX] at hownf hownd
      clear hXX
      go_wp2_with fail
      refine (equal_same wr.heap.size wb.heap.size _ _ _ _ _ (by omega) hownf hownd).mono ?_
      rintro e wf ⟨rfl, q, rfl⟩
      clear hownf hownd
      have hmapq : (wd.drewN q).ownsMap Yba.prog 9 (plainElem Yba.prog 33) w.heap.size _ D := hmapd
      have hendq : Below w.heap.size w (wd.drewN q) := hend.trans (Kept.below (Kept.drewN _ _ (fun _ => False)) _ (by omega) (fun _ h => h.elim))
      have hl28 := hmapq.len Yba.underlying28 3
      have hhas := htab.2.1
      clear htab
      cases fnd with
      | true =>
        clear hhas
        go_wp2
        go_ret
        exact ⟨rfl, hendq⟩
      | false =>
        go_wp2_with (at_lookup; refine wpList_lookup_own_ok_int _ rfl _ _ 28 rfl 9 33 .u64 law9 Yba.underlying28 Yba.underlying33 (zero33 _) w.heap.size _ D rfl hmapq _ (.string a1.data.toList) rfl (WideMaps.keyOf_string_mk Yba.underlying9 (by unfold maxLen; omega)) ?_; intro c _ _)
        go_ret
        exact ⟨rfl, hendq⟩

theorem own : ownKnob Yba.prog.godebug = none := by kernel_rfl
theorem laidOut : laidOutB Yba.prog = true := by kernel_rfl

set_option maxHeartbeats 1000000 in
theorem walk (a0 : Option Addr) (len0 cap0 : Nat) (z0 : List Int) (a1 : ByteArray) (a2 : Option Addr) (len2 cap2 : Nat) (ss : List ByteArray) (a3 : Option Addr) (len3 cap3 : Nat) (zs : List Int) (w : World)
    (w0 : IsRow .u8 w a0 len0 cap0 z0) (w1 : a1.size ≤ maxLen) (w2 : IsStrs w a2 len2 ss) (w3 : IsU64s w a3 len3 zs) (m0 : len0 ≤ maxLen) (m2 : len2 ≤ maxLen) (m3 : len3 ≤ maxLen) :
    Calls Yba.prog 4 #[.slice a0 len0 cap0, .string a1, .slice a2 len2 cap2, .slice a3 len3 cap3] w fun e w' => e = .returned (.bool true) ∧ Below w.heap.size w w' := by
  unfold maxLen at w1 m0 m2 m3
  by_cases h0 : 1048576 < len0
  · clear w0 w2 w3
    go_enter Yba.func4, Yba.ntmps4
    go_wp2
    go_ret
    exact ⟨rfl, Below.refl _ _⟩
  by_cases h1 : 1048576 < a1.size
  · clear w0 w2 w3
    go_enter Yba.func4, Yba.ntmps4
    go_wp2
    go_ret
    exact ⟨rfl, Below.refl _ _⟩
  by_cases h2 : 4096 < len2
  · clear w0 w2 w3
    go_enter Yba.func4, Yba.ntmps4
    go_wp2
    go_ret
    exact ⟨rfl, Below.refl _ _⟩
  by_cases h3 : 4096 < len3
  · clear w0 w2 w3
    go_enter Yba.func4, Yba.ntmps4
    go_wp2
    go_ret
    exact ⟨rfl, Below.refl _ _⟩
  by_cases hlt : len3 < len2
  · exact walkA a0 len0 cap0 z0 a1 a2 len2 cap2 ss a3 len3 cap3 zs w w0 w2 w3 (by omega) (by omega) (by omega) (by omega) hlt
  · exact walkB a0 len0 cap0 z0 a1 a2 len2 cap2 ss a3 len3 cap3 zs w w0 w2 w3 (by omega) (by omega) (by omega) (by omega) (by omega)

set_option maxRecDepth 100000 in
theorem lifted (os : Os) (started : os.Started) (H : Type) (enc : TypeId × Value → H) :
    ReturnsInHanded {} Yba.checked os 4 .any (Rows.lawS4630CTableSpec.pre6 enc Yba.prog Yba.f4 Rows.lawS4630CTableRow.domain false) (Rows.lawS4630CTableSpec.post enc Yba.prog Yba.f4 false true false false) := by
  refine returnsInHanded_of_change (C := Yba.checked) own started (by kernel_rfl) Yba.func4
    (ChangeSpec.witness6 (enc := enc) (C := Yba.checked) false ⟨#[], #[.slice none 0 0, .string ByteArray.empty, .slice none 0 0, .slice none 0 0], []⟩ 8 (by kernel_rfl) (by kernel_rfl) (by kernel_rfl) (by kernel_rfl)) ?_
  intro W base args ds gs before hval0 hW hcnd _
  have hval : ∀ (j : Nat) t v, Yba.f4.params[j]? = some t → args[j]? = some v → Value.okWide Yba.prog W .any base t v := hval0
  have hW' := hW
  obtain ⟨p, q, hA0, hV, rfl, hfz, hnd⟩ := hW
  have hA : DataW.TrodAll enc Yba.prog W 0 (fun _ => true) true Yba.f4.params.toList args.toList ds p := hA0
  rw [Yba.params4] at hA hval
  obtain ⟨v0, vs0, d0, ds0, p0, q0, hargs, rfl, rfl, h0, r0⟩ := trodAll_cons hA
  obtain ⟨v1, vs1, d1, ds1, p1, q1, rfl, rfl, rfl, h1, r1⟩ := trodAll_cons r0
  obtain ⟨v2, vs2, d2, ds2, p2, q2, rfl, rfl, rfl, h2, r2⟩ := trodAll_cons r1
  obtain ⟨v3, vs3, d3, ds3, p3, q3, rfl, rfl, rfl, h3, r3⟩ := trodAll_cons r2
  obtain ⟨rfl, rfl, rfl⟩ := trodAll_nil r3
  obtain rfl : args = #[v0, v1, v2, v3] := by cases args; simp_all
  obtain ⟨rfl, rfl⟩ := trodVars_none hV
  obtain ⟨a0, len0, cap0, rfl⟩ := okWide_slice Yba.underlying22 (hval 0 22 v0 rfl rfl)
  have k0 := h0
  have lt0 : ∀ x ∈ p0, x.block < W.heap.size := by obtain ⟨m, hm⟩ := k0; exact DataW.trod_lt m _ _ _ hm
  obtain ⟨z0, w0, m0⟩ : ∃ zs, IsRow .u8 W a0 len0 cap0 zs ∧ len0 ≤ maxLen := by
    obtain ⟨fuel, hf⟩ := h0
    rcases open_ints Yba.underlying22 Yba.underlying5 (by kernel_rfl) hf with ⟨hcs, _⟩ | ⟨x, l, c, zs, hcs, _, hl, hm, hz, _, hcell, hwz⟩
    · simp [Value.cells] at hcs
      obtain ⟨rfl, rfl, rfl⟩ := hcs
      exact ⟨[], .inl ⟨rfl, rfl, rfl, rfl⟩, Nat.zero_le _⟩
    · simp [Value.cells] at hcs
      obtain ⟨rfl, rfl, rfl⟩ := hcs
      exact ⟨zs, .inr ⟨_, rfl, hl, hm, by simpa using hz, hcell, hwz⟩, Nat.le_trans hl hm⟩
  obtain ⟨a1, rfl, rfl, rfl, w1⟩ := open_string Yba.underlying9 (hval 1 9 v1 rfl rfl) h1
  obtain ⟨a2, len2, cap2, rfl⟩ := okWide_slice Yba.underlying36 (hval 2 36 v2 rfl rfl)
  have k2 := h2
  have lt2 : ∀ x ∈ p2, x.block < W.heap.size := by obtain ⟨m, hm⟩ := k2; exact DataW.trod_lt m _ _ _ hm
  obtain ⟨ss, w2, m2⟩ : ∃ ss, IsStrs W a2 len2 ss ∧ len2 ≤ maxLen := by
    obtain ⟨fuel, hf⟩ := h2
    rcases open_strings Yba.underlying36 Yba.underlying9 (by kernel_rfl) hf with ⟨hcs, _⟩ | ⟨x, l, c, ss, hcs, _, hl, hm, hz, _, hcell, hws⟩
    · simp [Value.cells] at hcs
      obtain ⟨rfl, rfl, rfl⟩ := hcs
      exact ⟨[], .inl ⟨rfl, rfl⟩, Nat.zero_le _⟩
    · simp [Value.cells] at hcs
      obtain ⟨rfl, rfl, rfl⟩ := hcs
      have hz' : ss.length = cap2 := by simpa using hz
      exact ⟨ss, .inr ⟨_, rfl, by omega, hcell, hws⟩, Nat.le_trans hl hm⟩
  obtain ⟨a3, len3, cap3, rfl⟩ := okWide_slice Yba.underlying37 (hval 3 37 v3 rfl rfl)
  have k3 := h3
  have lt3 : ∀ x ∈ p3, x.block < W.heap.size := by obtain ⟨m, hm⟩ := k3; exact DataW.trod_lt m _ _ _ hm
  obtain ⟨zs, w3, m3⟩ : ∃ zs, IsU64s W a3 len3 zs ∧ len3 ≤ maxLen := by
    obtain ⟨fuel, hf⟩ := h3
    rcases open_ints Yba.underlying37 Yba.underlying33 (by kernel_rfl) hf with ⟨hcs, _⟩ | ⟨x, l, c, zs, hcs, _, hl, hm, hz, _, hcell, hwz⟩
    · simp [Value.cells] at hcs
      obtain ⟨rfl, rfl, rfl⟩ := hcs
      exact ⟨[], .inl ⟨rfl, rfl⟩, Nat.zero_le _⟩
    · simp [Value.cells] at hcs
      obtain ⟨rfl, rfl, rfl⟩ := hcs
      have hz' : zs.length = cap3 := by simpa using hz
      exact ⟨zs, .inr ⟨_, rfl, by omega, hcell, hwz⟩, Nat.le_trans hl hm⟩
  clear hA0 hval0
  refine (walk a0 len0 cap0 z0 a1 a2 len2 cap2 ss a3 len3 cap3 zs W w0 w1 w2 w3 m0 m2 m3).mono fun e W' ⟨he, bel⟩ => ?_
  subst he
  exact ⟨_, rfl, _, _, _, [], _, [], hW', trodAll_mk1 (shut_bool Yba.underlying4 _), (trodAll_cons_mk (Below.trod laidOut (by kernel_rfl) (of_decide_eq_true (by kernel_rfl)) k0 bel lt0) (trodAll_cons_mk (shut_string Yba.underlying9 w1) (trodAll_cons_mk (Below.trod laidOut (by kernel_rfl) (of_decide_eq_true (by kernel_rfl)) k2 bel lt2) (trodAll_cons_mk (Below.trod laidOut (by kernel_rfl) (of_decide_eq_true (by kernel_rfl)) k3 bel lt3) trodAll_mk0)))), rfl, bel.frame _, fun h => by cases h⟩

theorem over : Rows.lawS4630CTableRow.holds Yba.pinned (OpenSpec.ofChange Rows.lawS4630CTableSpec) :=
  OpenClaim.holds_of_wide 4 Yba.f4 rfl rfl rfl rfl rfl rfl rfl ⟨rfl, rfl, rfl, rfl, rfl⟩ rfl rfl rfl rfl rfl (by kernel_rfl) Yba.func4 (by kernel_rfl)
    (of_decide_eq_true (by kernel_rfl)) (by unfold Func.isWrapper; first | (rw [if_pos (by decide +kernel)]; kernel_rfl) | (rw [if_neg (by decide +kernel)]; exact ⟨rfl, rfl⟩))
    (fun os started H enc _ => lifted os started H enc)

/-- THE STATEMENT -/
theorem proved : Rows.LawS4630CTableSaid := over
#print axioms proved

end Go.Proofs.Ybulkcqwc.lawS4630CTable

/-
  The contracts of the decoder's methods uvarint, written, counter, within, after, on bytes that are well formed.
-/
import Derived.Test.YbulkcqwcFmtUv
import Derived.Test.YbulkcqwcFmtWords
namespace Go.Proofs.YbulkcqwcFmt
open Go Go.RowKit
set_option linter.unusedVariables false

theorem bdrew {B : Nat} {a w : World} (h : Below B a w) (q : Nat) : Below B a (w.drewN q) := ⟨h.os, h.tape, h.output, h.size, h.block⟩

theorem uvarint_last : ∀ (n x : Nat), x ≤ n → x ≠ 0 → ∀ (h : (Lib.uvarint x).length - 1 < (Lib.uvarint x).length), ((Lib.uvarint x)[(Lib.uvarint x).length - 1]'h).toNat ≠ 0
  | 0, x, hx, h0, _ => by omega
  | n + 1, x, hx, h0, h => by
    by_cases hs : x < 128
    · simp only [Lib.uvarint_small hs]
      simp
      omega
    · have hp := Lib.uvarint_pos (x / 128)
      have ih := uvarint_last n (x / 128) (by omega) (by omega) (by omega)
      have e : Lib.uvarint x = (x % 128 + 128).toUInt8 :: Lib.uvarint (x / 128) := Lib.uvarint_big (by omega)
      have hl : (Lib.uvarint x).length = (Lib.uvarint (x / 128)).length + 1 := by rw [e]; rfl
      have : (Lib.uvarint x)[(Lib.uvarint x).length - 1]'h = (Lib.uvarint (x / 128))[(Lib.uvarint (x / 128)).length - 1]'(by omega) := by
        have hg : ∀ (i : Nat) (hi : i < (Lib.uvarint x).length), 0 < i → (Lib.uvarint x)[i]'hi = (Lib.uvarint (x / 128))[i - 1]'(by omega) := by
          intro i hi h0
          obtain ⟨i, rfl⟩ : ∃ j, i = j + 1 := ⟨i - 1, by omega⟩
          simp only [e]
          simp
        rw [hg _ h (by omega)]
        congr 1
        omega
      rw [this]
      exact ih

theorem uvarint_one {x : Nat} (h : 1 < (Lib.uvarint x).length) : x ≠ 0 := by
  intro e
  subst e
  rw [Lib.uvarint_small (by omega)] at h
  simp at h

/-- The decoder, with no failure yet, in its block. -/
structure Dec (w : World) (D G N cap off last : Nat) : Prop where
  blk : w.heap[D]? = some (.cells #[.slice (some ⟨G, 0, none⟩) N cap, .int .i64 off, .int .u64 last, .pointer none, .slice none 0 0, .slice none 0 0] 33 (0, 0))
  ne : G ≠ D
  lt : G < w.heap.size

def Bytes (w : World) (G : Nat) (bs : List UInt8) : Prop := ∀ j (hj : j < bs.length), w.cell? ⟨G, j, none⟩ = some (.int .u8 (bs[j]).toNat)

theorem Dec.size {w : World} {D G N cap off last : Nat} (h : Dec w D G N cap off last) : D < w.heap.size := lt_of_block h.blk

theorem Dec.cells {w : World} {D G N cap off last : Nat} (h : Dec w D G N cap off last) :
    w.cell? ⟨D, 0, none⟩ = some (.slice (some ⟨G, 0, none⟩) N cap) ∧ w.cell? ⟨D, 1, none⟩ = some (.int .i64 off) ∧ w.cell? ⟨D, 2, none⟩ = some (.int .u64 last) ∧ w.cell? ⟨D, 3, none⟩ = some (.pointer none) ∧ w.frozen? ⟨D, 1, none⟩ = false :=
  ⟨cell_of_row w D 0 _ _ _ h.blk, cell_of_row w D 1 _ _ _ h.blk, cell_of_row w D 2 _ _ _ h.blk, cell_of_row w D 3 _ _ _ h.blk, frozen_of_row w D 1 _ _ h.blk⟩

theorem Dec.kept {w w' : World} {D G N cap off last : Nat} (h : Dec w D G N cap off last) {T : Nat → Prop} (k : Kept w w' T) (hT : ¬ T D) : Dec w' D G N cap off last :=
  ⟨(k.block D h.size hT).trans h.blk, h.ne, Nat.lt_of_lt_of_le h.lt k.size⟩

theorem Bytes.kept {w w' : World} {G : Nat} {bs : List UInt8} (h : Bytes w G bs) {T : Nat → Prop} (k : Kept w w' T) (hG : G < w.heap.size) (hT : ¬ T G) : Bytes w' G bs :=
  fun j hj => (World.cell?_of_block (w := w) (a := ⟨G, j, none⟩) (k.block G hG hT)).trans (h j hj)

theorem Dec.moved' {w W : World} {D G N cap off last : Nat} (h : Dec w D G N cap off last) (hk : Kept w W (fun _ => False)) (off' : Nat) (v : Int) (hv : v = (off' : Int)) :
    Dec (W.setCell ⟨D, 1, none⟩ (.int .i64 v)) D G N cap off' last ∧ Kept w (W.setCell ⟨D, 1, none⟩ (.int .i64 v)) (fun k => k = D) := by
  subst hv
  have h' := h.kept hk (fun h => h)
  refine ⟨⟨heap_setCell_same _ D 1 _ 33 _ h'.blk, h.ne, ?_⟩, (hk.wide (fun _ h => h.elim)).trans (Kept.setCell W ⟨D, 1, none⟩ _) (fun _ _ h => h)⟩
  have := h'.lt
  simpa [World.setCell] using this

set_option maxHeartbeats 1000000 in
set_option maxRecDepth 100000 in
theorem uvarint_c (D G N cap off last x : Nat) (w : World) (pre rest : List UInt8) (hd : Dec w D G N cap off last) (hb : Bytes w G (pre ++ Lib.uvarint x ++ rest)) (hN : N = (pre ++ Lib.uvarint x ++ rest).length) (hoff : off = pre.length) (hx : x < 34359738368) (hn : N ≤ 1048576) (hcap : N ≤ cap) (hcm : cap ≤ maxLen) :
    Calls Ybaf.prog 11 #[.pointer (some ⟨D, 0, none⟩)] w fun e w' => e = .returned (.int .u64 x) ∧ Dec w' D G N cap (off + (Lib.uvarint x).length) last ∧ Kept w w' (fun k => k = D) := by
  obtain ⟨d0, d1, d2, d3, df⟩ := hd.cells
  have hlp := Lib.uvarint_pos x
  simp only [List.length_append] at hN
  have hby : ∀ j (hj : j < (Lib.uvarint x).length), w.cell? ⟨G, off + j, none⟩ = some (.int .u8 ((Lib.uvarint x)[j]).toNat) := by
    intro j hj
    have := hb (off + j) (by simp; omega)
    rw [this]
    congr 3
    rw [List.getElem_append_left (by simp; omega), List.getElem_append_right (by omega)]
    simp [hoff]
  have huv := fun (q : Nat) => uvdec G off (N - off) (cap - off) x (w.drewN q) hx (by omega) (by omega) hby
  have hlast : 1 < (Lib.uvarint x).length → ∃ b : Nat, b ≠ 0 ∧ w.cell? ⟨G, off + (Lib.uvarint x).length - 1, none⟩ = some (.int .u8 b) := by
    intro h
    have := hby ((Lib.uvarint x).length - 1) (by omega)
    refine ⟨_, uvarint_last x x (Nat.le_refl _) (uvarint_one h) (by omega), ?_⟩
    rw [← this]
    congr 2
    omega
  have HD : Hid (Dec w D G N cap off last) := hd
  clear hd hb hby
  have hle : off + (Lib.uvarint x).length ≤ N := by omega
  clear hoff hN
  generalize (Lib.uvarint x).length = l at *
  go_enter Ybaf.func11, Ybaf.ntmps11
  go_wp2_with fail
  have hco : ¬ cap = off := by omega
  have hon : (off : Int) ≤ (N : Int) := by omega
  go_quiet ((go_at_call 24; exact Calls.quiet_of_same (huv _)))
  go_wp2_with fail
  by_cases h1 : 1 < l
  · obtain ⟨b, hb0, hcb⟩ := hlast h1
    have h1' : (1 : Int) < (l : Int) := by omega
    have hbb : ((b : Int) == 0) = false := by simp; omega
    have hix : (off : Int) + (l : Int) - 1 < (N : Int) := by omega
    clear hlast
    go_quiet (fail)
    go_wp2
    go_ret
    exact ⟨rfl, HD.out.moved' (by first | exact Kept.drewN _ _ _ | exact (Kept.drewN _ _ _).trans (Kept.drewN _ _ (fun _ => False)) (fun _ _ h => h)) _ _ (by omega)⟩
  · have h1' : decide ((1 : Int) < (l : Int)) = false := by simp; omega
    clear hlast
    go_quiet (fail)
    go_wp2
    go_ret
    exact ⟨rfl, HD.out.moved' (by first | exact Kept.drewN _ _ _ | exact (Kept.drewN _ _ _).trans (Kept.drewN _ _ (fun _ => False)) (fun _ _ h => h)) _ _ (by omega)⟩

set_option maxHeartbeats 1000000 in
theorem written_c (D G N cap off last n : Nat) (w : World) (hd : Dec w D G N cap off last) (hn : n ≤ last) (hl : last < 4611686018427387904) :
    Calls Ybaf.prog 19 #[.pointer (some ⟨D, 0, none⟩), .int .u64 n] w fun e w' => e = .returned (.int .u64 n) ∧ w' = w := by
  obtain ⟨d0, d1, d2, d3, df⟩ := hd.cells
  have hnl : decide ((last : Int) < (n : Int)) = false := by simp; omega
  go_enter Ybaf.func19, Ybaf.ntmps19
  go_wp2
  go_ret
  exact ⟨rfl, rfl⟩

set_option maxHeartbeats 1000000 in
theorem counter_c (D G N cap off last x : Nat) (w : World) (pre rest : List UInt8) (hd : Dec w D G N cap off last) (hb : Bytes w G (pre ++ Lib.uvarint x ++ rest)) (hN : N = (pre ++ Lib.uvarint x ++ rest).length) (hoff : off = pre.length) (hx : x < 34359738368) (hn : N ≤ 1048576) (hcap : N ≤ cap) (hcm : cap ≤ maxLen)
    (hxl : x ≤ last) (hl : last < 4611686018427387904) :
    Calls Ybaf.prog 10 #[.pointer (some ⟨D, 0, none⟩)] w fun e w' => e = .returned (.int .u64 x) ∧ Dec w' D G N cap (off + (Lib.uvarint x).length) last ∧ Kept w w' (fun k => k = D) := by
  go_enter Ybaf.func10, Ybaf.ntmps10
  go_wp2_with fail
  refine (uvarint_c D G N cap off last x w pre rest hd hb hN hoff hx hn hcap hcm).mono ?_
  rintro e w1 ⟨rfl, hd1, hk1⟩
  go_wp2_with fail
  refine (written_c D G N cap _ last x w1 hd1 hxl hl).mono ?_
  rintro e w2 ⟨rfl, rfl⟩
  go_wp2
  go_ret
  exact ⟨rfl, hd1, hk1⟩

set_option maxHeartbeats 1000000 in
set_option maxRecDepth 100000 in
theorem within_c (D G N cap off last n : Nat) (w : World) (hd : Dec w D G N cap off last) (hn : off + n ≤ N) (hN : N ≤ 1048576) :
    Calls Ybaf.prog 12 #[.pointer (some ⟨D, 0, none⟩), .int .u64 n] w fun e w' => e = .returned (.int .i64 n) ∧ Below w.heap.size w w' := by
  obtain ⟨d0, d1, d2, d3, df⟩ := hd.cells
  have hle : (n : Int) ≤ (N : Int) - (off : Int) := by omega
  have hnl : decide ((N : Int) - (off : Int) < (n : Int)) = false := by simp; omega
  go_enter Ybaf.func12, Ybaf.ntmps12
  go_wp2_with fail
  go_quiet (fail)
  go_wp2
  go_ret
  exact ⟨rfl, bdrew (Below.refl _ _) _⟩

set_option maxHeartbeats 1000000 in
set_option maxRecDepth 100000 in
theorem after_c (D G N cap off last x prev : Nat) (w : World) (pre rest : List UInt8) (hd : Dec w D G N cap off last) (hb : Bytes w G (pre ++ Lib.uvarint x ++ rest)) (hN : N = (pre ++ Lib.uvarint x ++ rest).length) (hoff : off = pre.length) (hx : x < 34359738368) (hn : N ≤ 1048576) (hcap : N ≤ cap) (hcm : cap ≤ maxLen)
    (hxl : prev + x + 1 ≤ last) (hl : last < 4611686018427387904) :
    Calls Ybaf.prog 26 #[.pointer (some ⟨D, 0, none⟩), .int .u64 prev] w fun e w' => e = .returned (.int .u64 (prev + x + 1 : Nat)) ∧ Dec w' D G N cap (off + (Lib.uvarint x).length) last ∧ Kept w w' (fun k => k = D) := by
  go_enter Ybaf.func26, Ybaf.ntmps26
  go_wp2_with fail
  refine (uvarint_c D G N cap off last x w pre rest hd hb hN hoff hx hn hcap hcm).mono ?_
  rintro e w1 ⟨rfl, hd1, hk1⟩
  have hnl : decide (18446744073709551615 - (prev : Int) ≤ (x : Int)) = false := by simp; omega
  go_wp2_with fail
  rw [show ((prev : Int) + x + 1) = ((prev + x + 1 : Nat) : Int) by omega]
  refine (written_c D G N cap _ last (prev + x + 1) w1 hd1 hxl hl).mono ?_
  rintro e w2 ⟨rfl, rfl⟩
  go_wp2
  go_ret
  exact ⟨rfl, hd1, hk1⟩
end Go.Proofs.YbulkcqwcFmt

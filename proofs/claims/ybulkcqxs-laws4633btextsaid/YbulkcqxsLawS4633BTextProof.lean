/-
  The proof of 'Rows.LawS4633BTextSaid'. The frame (the row's step) is the guide's own, written by its skeleton tool; the walk is ours.
-/
import Derived.Test.YbulkcqxsRows
import Derived.Test.YbulkcqxsQuote
import Derived.Deep.QuietTactic
import Derived.BigQuiet
import Derived.Deep.Draws
import Derived.WalkKit
import Derived.ProofKit
import Derived.OpenShut
import Derived.ShutString
import Derived.ChangeOld
import Derived.Below
namespace Go.Proofs.Ybulkcqxs.lawS4633BText
open Go.ChangeShapes Go.WideShapes Go.ChangeAt Go.RowKit
open Go.ChangeMaps (open_string shut_string)
set_option linter.unusedVariables false

theorem own : ownKnob Yba.prog.godebug = none := by kernel_rfl
theorem laidOut : laidOutB Yba.prog = true := by kernel_rfl

/-- WHAT THE WALK IS TOLD OF A SLICE OF INTEGERS THAT CAME IN: it is nil; or it leads to a row of 'cap' cells, the numbers 'zs' (the first 'len' are its elements, the rest its spare room), each fitting its kind. -/
def IsRow (k : IntKind) (w : World) (a : Option Addr) (len cap : Nat) (zs : List Int) : Prop :=
  (a = none ∧ len = 0 ∧ cap = 0 ∧ zs = []) ∨
  ∃ x, a = some x ∧ len ≤ cap ∧ cap ≤ maxLen ∧ zs.length = cap ∧ (∀ i, i < zs.length → w.cell? (x.add i) = some (.int k (zs.getD i 0))) ∧ ∀ n ∈ zs, (Lit.int k n).wf = true

/-! ### STEP 1: THE WALK: the Go text returns true, AND WRITES NOTHING THAT WAS THERE: 'Below w.heap.size w w'' (Derived/Below.lean: '.refl', '.alloc', '.drew', '.setCell' at a new block, '.trans'). Open each 'IsRow' by 'rcases' AHEAD of 'go_enter'; part every test ahead of the walk. -/
theorem nums_of {k : IntKind} {w : World} {a : Option Addr} {len cap : Nat} {zs : List Int} (h : IsRow k w a len cap zs) : IsNums k w a len zs ∧ len ≤ maxLen := by
  rcases h with ⟨rfl, rfl, _, _⟩ | ⟨x, rfl, hl, hm, hz, hc, hw⟩
  · exact ⟨.inl ⟨rfl, rfl⟩, Nat.zero_le _⟩
  · exact ⟨.inr ⟨x, rfl, by omega, hc, hw⟩, Nat.le_trans hl hm⟩

theorem Yba.info40 : (Yba.prog.info? 40).map (fun i => (i.zero, i.size, i.bytes)) = some (some (.int .u32 0), 1, 4) := by kernel_rfl

/-- A raw byte as a printable character. -/
def chr (x : Int) : Int := x % 95 + 32
theorem chr_in (x : Int) : 32 ≤ chr x ∧ chr x ≤ 126 := by unfold chr; omega

def text (zs : List Int) (k : Nat) : List Int := (zs.take k).map chr

theorem text_all (zs : List Int) (k : Nat) (h : k < zs.length) : (text zs (k + 1)).all okc = ((text zs k).all okc && okc (chr (zs.getD k 0))) := by
  unfold text
  rw [List.take_succ_eq_append_getElem h, List.map_append, List.all_append]
  simp [List.getD, h]

/-- The quote so far. -/
def want (mpl : Bool) (zs : List Int) (k : Nat) : Int := quote 4 mpl (text zs k)
theorem want_good (mpl : Bool) (zs : List Int) (k : Nat) (h : k < zs.length) (hx : okc (chr (zs.getD k 0)) = true) : want mpl zs (k + 1) = want mpl zs k := by
  unfold want quote
  rw [text_all zs k h, hx, Bool.and_true]
theorem want_bad (mpl : Bool) (zs : List Int) (k : Nat) (h : k < zs.length) (hx : okc (chr (zs.getD k 0)) = false) : want mpl zs (k + 1) = 0 := by
  unfold want quote
  rw [text_all zs k h, hx, Bool.and_false]
  simp

theorem bne_want (mpl : Bool) (zs : List Int) (k : Nat) : (quote 4 mpl (text zs k) != want mpl zs k) = false := by
  show (quote 4 mpl (text zs k) != quote 4 mpl (text zs k)) = false
  simp

/-- The row of the value that is built: its first k cells are right. -/
def Built (w : World) (B len : Nat) (zs : List Int) (k : Nat) : Prop :=
  ∃ xs, w.ownsRow B 40 1 (.slice (some ⟨B, 0, none⟩) len len) len xs ∧ ∀ j, j < k → xs[j]? = some (.int .u32 (chr (zs.getD j 0)))

theorem built_cell {w : World} {B len : Nat} {zs : List Int} {k : Nat} (h : Built w B len zs k) (hk : k < len) : ∃ v, w.cell? ⟨B, k, none⟩ = some v ∧ w.frozen? ⟨B, k, none⟩ = false := by
  obtain ⟨xs, ho, _⟩ := h
  have hl := ho.1
  refine ⟨xs[k]'(by omega), ?_, ho.frozenAt k⟩
  rw [ho.cellAt k (by omega)]
  simp [show k < xs.length by omega]

theorem built_step {w : World} {B len : Nat} {zs : List Int} {k : Nat} (h : Built w B len zs k) (hk : k < len) : Built (w.setCell ⟨B, k, none⟩ (.int .u32 (chr (zs.getD k 0)))) B len zs (k + 1) := by
  obtain ⟨xs, ho, hx⟩ := h
  have hl := ho.1
  refine ⟨_, (ho.stored k _).1, fun j hj => ?_⟩
  by_cases e : j = k
  · subst e; simp [show j < xs.length by omega]
  · rw [List.getElem?_set_ne (by omega)]; exact hx j (by omega)

theorem built_read {w : World} {B len : Nat} {zs : List Int} (h : Built w B len zs len) {k : Nat} (hk : k < len) : w.cell? ⟨B, k, none⟩ = some (.int .u32 (chr (zs.getD k 0))) := by
  obtain ⟨xs, ho, hx⟩ := h
  rw [ho.cellAt k (by omega)]
  exact hx k hk

theorem built_lt {w : World} {B len : Nat} {zs : List Int} {k : Nat} (h : Built w B len zs k) : B < w.heap.size := by
  obtain ⟨xs, ho, _⟩ := h
  exact (ho.lt B rfl).2

theorem nums_below {k : IntKind} {w w' : World} {a : Option Addr} {len : Nat} {zs : List Int} (h : IsNums k w a len zs) (hb : Below w.heap.size w w') : IsNums k w' a len zs := by
  rcases h with h | ⟨x, rfl, hl, hc, hw⟩
  · exact .inl h
  · exact .inr ⟨x, rfl, hl, fun i hi => (hb.cell (World.block_lt_of_cell? w _ (hc i hi))).trans (hc i hi), hw⟩

theorem built_nums {w : World} {B len : Nat} {zs : List Int} (h : Built w B len zs len) (hz : len ≤ zs.length) (o : Obj) : IsNums .u32 (w.alloc o) (some ⟨B, 0, none⟩) len (text zs len) := by
  have hlen : (text zs len).length = len := by simp [text]; omega
  have hlt := built_lt h
  refine .inr ⟨_, rfl, by omega, fun i hi => ?_, fun z hz' => ?_⟩
  · rw [Addr.add_lit, Nat.zero_add, World.cell?_of_block (Below.heap_alloc w o B hlt), built_read h (by omega)]
    congr 2
    have : i < zs.length := by omega
    have h2 : i < len := by omega
    simp [text, List.getD, this, h2]
  · obtain ⟨x, _, rfl⟩ := List.mem_map.1 hz'
    have := chr_in x
    exact WalkArith.wf_u32 (by omega)

set_option maxHeartbeats 4000000 in
theorem walkT (a1 : Option Addr) (len1 cap1 : Nat) (z1 : List Int) (w : World) (w1 : IsRow .u8 w a1 len1 cap1 z1) :
    Calls Yba.prog 6 #[.bool true, .slice a1 len1 cap1] w fun e w' => e = .returned (.bool true) ∧ Below w.heap.size w w' := by
  obtain ⟨hN, hm⟩ := nums_of w1
  have HN : Hid (IsNums .u8 w a1 len1 z1) := hN
  unfold maxLen at hm
  clear w1 hN
  by_cases hl : 1024 < len1
  · go_enter Yba.func6, Yba.ntmps6
    go_wp2
    go_ret
    exact ⟨rfl, Below.refl _ _⟩
  have hl1 : len1 ≤ 1024 := by omega
  clear hm hl
  obtain ⟨i0, hi, hz0, hz1, hz2⟩ := info_parts Yba.info40
  go_enter Yba.func6, Yba.ntmps6
  go_wp2_with (at_make; refine wpList_make_full _ rfl _ _ 31 rfl w.heap.size 40 i0 (.int .u32 0) 1 Yba.underlying31 hi hz0 hz1 _ _ _ _ len1 rfl rfl (by omega) (by omega) ?b2 ?b3 ?b4 ?_)
  case b2 => rw [hz2]; omega
  case b3 => unfold maxLen; omega
  case b4 => exact Nat.le_refl _
  intro wm hown0 hgrow0
  have hbel0 : Below w.heap.size w wm := (Below.refl _ _).grown hgrow0 (Nat.le_refl _) (fun k hk => by cases hk)
  have hB0 : Hid (Built wm w.heap.size len1 z1 0) := ⟨_, hown0, fun j hj => absurd hj (Nat.not_lt_zero _)⟩
  clear hown0 hgrow0 hi hz0 hz1 hz2
  go_wp2
  go_loopw [6] (fun i wr => ∃ k : Nat, k ≤ len1 ∧ i = .int .i64 k ∧ Hid (Built wr w.heap.size len1 z1 k) ∧ Below w.heap.size w wr) (fun i _ => len1 - (intOf i).toNat)
  case atStart => exact ⟨0, Nat.zero_le _, rfl, hB0, hbel0⟩
  case round =>
    obtain ⟨k, hk, rfl, hB, hbel⟩ := hrel
    by_cases hlt : k < len1
    · obtain ⟨b, off, rfl, hb, hle, hc, hwf⟩ := nums_at (nums_below HN.out hbel) (by omega)
      have g := hc k hlt
      have hw := bounds_u8 (hwf k hlt)
      obtain ⟨v0, gv, gf⟩ := built_cell hB.out hlt
      have R : Hid (Built (wr.setCell ⟨w.heap.size, k, none⟩ (.int .u32 (chr (z1.getD k 0)))) w.heap.size len1 z1 (k + 1)) := built_step hB.out hlt
      unfold chr at R
      clear hc hwf HN hB
      generalize z1.getD k 0 = x at g hw R
      have hbel' : Below w.heap.size w (wr.setCell ⟨w.heap.size, k, none⟩ (.int .u32 (x % 95 + 32))) := hbel.setCell (Nat.le_refl _) _
      go_wp2
      go_roundw
      case rel => exact ⟨k + 1, by omega, by go_num, R, hbel'⟩
      case measure => simp [intOf]; omega
    · have hke : k = len1 := by omega
      subst hke
      have hle : k ≤ z1.length ∨ k = 0 := by
        rcases HN.out with ⟨_, h0⟩ | ⟨x, _, h0, _⟩
        · exact .inr h0
        · exact .inl h0
      go_wp2
      go_loop [7, 8] (fun q i => ∃ m : Nat, m ≤ k ∧ i = .int .i64 m ∧ q = .int .u8 (want true z1 m)) (fun _ i => k - (intOf i).toNat)
      case atStart => exact ⟨0, Nat.zero_le _, rfl, rfl⟩
      case round =>
        obtain ⟨m, hmk, rfl, rfl⟩ := hrel
        by_cases hlt2 : m < k
        · obtain ⟨b, off, rfl, hb, hle2, hc, hwf⟩ := nums_at (nums_below HN.out hbel) (by omega)
          have g := hc m hlt2
          have hw := bounds_u8 (hwf m hlt2)
          have HG : Hid (okc (chr (z1.getD m 0)) = true → want true z1 (m + 1) = want true z1 m) := want_good true z1 m (by omega)
          have HB : Hid (okc (chr (z1.getD m 0)) = false → want true z1 (m + 1) = 0) := want_bad true z1 m (by omega)
          clear hc hwf HN hB hbel hB0 hbel0 hle
          generalize z1.getD m 0 = x at g hw HG HB
          cases hx : okc (chr x) with
          | true =>
            obtain ⟨h1, h2, h3, h4, h5⟩ := okc_yes hx
            have HG' : Hid (want true z1 (m + 1) = want true z1 m) := HG.out hx
            unfold chr at h3 h4 h5
            have h3' : (x % 95 + 32 == 34) = false := by simpa using h3
            have h4' : (x % 95 + 32 == 39) = false := by simpa using h4
            have h5' : (x % 95 + 32 == 92) = false := by simpa using h5
            clear hx h1 h2 h3 h4 h5 HB HG
            go_wp2
            go_round
            case rel => exact ⟨m + 1, by omega, by go_num, by rw [HG'.out]⟩
            case measure => simp [intOf]; omega
          | false =>
            have HB' : Hid (want true z1 (m + 1) = 0) := HB.out hx
            have hcs := okc_no hx
            have hin := chr_in x
            unfold chr at hcs hin
            clear hx HB HG
            rcases hcs with h1 | h1 | h1 | h1 | h1
            · omega
            · omega
            · have h1' := beq_iff_eq.2 h1
              have H1 : Hid (x % 95 + 32 = _) := h1
              clear h1 hin
              go_wp2
              go_round
              case rel => exact ⟨m + 1, by omega, by go_num, by rw [HB'.out]⟩
              case measure => simp [intOf]; omega
            · have h1' := beq_iff_eq.2 h1
              have h2' : (x % 95 + 32 == 34) = false := by simp; omega
              have H1 : Hid (x % 95 + 32 = _) := h1
              clear h1 hin
              go_wp2
              go_round
              case rel => exact ⟨m + 1, by omega, by go_num, by rw [HB'.out]⟩
              case measure => simp [intOf]; omega
            · have h1' := beq_iff_eq.2 h1
              have h2' : (x % 95 + 32 == 34) = false := by simp; omega
              have h3' : (x % 95 + 32 == 39) = false := by simp; omega
              have H1 : Hid (x % 95 + 32 = _) := h1
              clear h1 hin
              go_wp2
              go_round
              case rel => exact ⟨m + 1, by omega, by go_num, by rw [HB'.out]⟩
              case measure => simp [intOf]; omega
        · have hme : m = k := by omega
          subst hme
          have hN2 : IsNums .u32 (wr.alloc (.cells #[.string ByteArray.empty, .bool true, .int .i64 0, .pointer none, .int .u8 4, .int .i64 0] 35)) (some ⟨w.heap.size, 0, none⟩) m (text z1 m) := by
            rcases hle with hle | hle
            · exact built_nums hB.out hle _
            · subst hle
              exact .inr ⟨_, rfl, Nat.zero_le _, fun i hi => absurd hi (by simp [text]), fun z hz => absurd hz (by simp [text])⟩
          have HN2 : Hid _ := hN2
          clear hN2
          go_wp2_with fail
          refine (textQuote_yes ByteArray.empty true 0 none 0 (some ⟨w.heap.size, 0, none⟩) m m (text z1 m) _ HN2.out hl1).mono ?_
          rintro e w' ⟨rfl, rfl⟩
          have ht : (text z1 m).take m = text z1 m := List.take_of_length_le (by simp [text]; omega)
          rw [ht]
          have hq : (quote 4 true (text z1 m) != want true z1 m) = false := bne_want _ _ _
          have Ht : Hid ((text z1 m).take m = text z1 m) := ht
          clear ht HN2
          have hsz := hbel.size
          have hlB := built_lt hB.out
          have hbel2 : Below w.heap.size w ((wr.alloc (.cells #[.string ByteArray.empty, .bool true, .int .i64 0, .pointer none, .int .u8 4, .int .i64 0] 35)).alloc (.cells #[.string ByteArray.empty, .bool true, .int .i64 0, .pointer none, .int .u8 4, .int .i64 0] 35)) := (hbel.alloc hsz _).alloc (by simp; omega) _
          have hrd : ∀ j, j < m → ((wr.alloc (.cells #[.string ByteArray.empty, .bool true, .int .i64 0, .pointer none, .int .u8 4, .int .i64 0] 35)).alloc (.cells #[.string ByteArray.empty, .bool true, .int .i64 0, .pointer none, .int .u8 4, .int .i64 0] 35)).cell? ⟨w.heap.size, j, none⟩ = some (.int .u32 (chr (z1.getD j 0))) := fun j hj => by
            rw [World.cell?_of_block (Below.heap_alloc _ _ _ (by simp; omega)), World.cell?_of_block (Below.heap_alloc _ _ _ hlB)]
            exact built_read hB.out hj
          have HR : Hid _ := hrd
          clear hrd hB hB0 hbel0
          go_wp2
          generalize ((wr.alloc (.cells #[.string ByteArray.empty, .bool true, .int .i64 0, .pointer none, .int .u8 4, .int .i64 0] 35)).alloc (.cells #[.string ByteArray.empty, .bool true, .int .i64 0, .pointer none, .int .u8 4, .int .i64 0] 35)) = W at hbel2 HR
          go_loopw [12] (fun i wq => ∃ j q : Nat, j ≤ m ∧ i = .int .i64 j ∧ wq = W.drewN q) (fun i _ => m - (intOf i).toNat)
          case atStart => exact ⟨0, 0, Nat.zero_le _, rfl, rfl⟩
          case round =>
            obtain ⟨j, q, hj, rfl, rfl⟩ := hrel
            by_cases hlt3 : j < m
            · obtain ⟨b, off, rfl, hb, hle2, hc, hwf⟩ := nums_at (nums_below HN.out hbel2) (by omega)
              have g := hc j hlt3
              have hw := bounds_u8 (hwf j hlt3)
              have g2 := HR.out j hlt3
              unfold chr at g2
              clear hc hwf HN HR hbel2 hbel
              generalize z1.getD j 0 = x at g hw g2
              go_wp2_with fail
              go_region
              go_wp2
              go_roundw
              case rel => exact ⟨j + 1, q + 1, by omega, by go_num, rfl⟩
              case measure => simp [intOf]; omega
            · clear HR HN
              go_wp2
              go_ret
              exact ⟨rfl, hbel2.trans ⟨rfl, rfl, rfl, Nat.le_refl _, fun _ _ => rfl⟩⟩

set_option maxHeartbeats 4000000 in
theorem walkF (a1 : Option Addr) (len1 cap1 : Nat) (z1 : List Int) (w : World) (w1 : IsRow .u8 w a1 len1 cap1 z1) :
    Calls Yba.prog 6 #[.bool false, .slice a1 len1 cap1] w fun e w' => e = .returned (.bool true) ∧ Below w.heap.size w w' := by
  obtain ⟨hN, hm⟩ := nums_of w1
  have HN : Hid (IsNums .u8 w a1 len1 z1) := hN
  unfold maxLen at hm
  clear w1 hN
  by_cases hl : 1024 < len1
  · go_enter Yba.func6, Yba.ntmps6
    go_wp2
    go_ret
    exact ⟨rfl, Below.refl _ _⟩
  have hl1 : len1 ≤ 1024 := by omega
  clear hm hl
  obtain ⟨i0, hi, hz0, hz1, hz2⟩ := info_parts Yba.info40
  go_enter Yba.func6, Yba.ntmps6
  go_wp2_with (at_make; refine wpList_make_full _ rfl _ _ 31 rfl w.heap.size 40 i0 (.int .u32 0) 1 Yba.underlying31 hi hz0 hz1 _ _ _ _ len1 rfl rfl (by omega) (by omega) ?b2 ?b3 ?b4 ?_)
  case b2 => rw [hz2]; omega
  case b3 => unfold maxLen; omega
  case b4 => exact Nat.le_refl _
  intro wm hown0 hgrow0
  have hbel0 : Below w.heap.size w wm := (Below.refl _ _).grown hgrow0 (Nat.le_refl _) (fun k hk => by cases hk)
  have hB0 : Hid (Built wm w.heap.size len1 z1 0) := ⟨_, hown0, fun j hj => absurd hj (Nat.not_lt_zero _)⟩
  clear hown0 hgrow0 hi hz0 hz1 hz2
  go_wp2
  go_loopw [6] (fun i wr => ∃ k : Nat, k ≤ len1 ∧ i = .int .i64 k ∧ Hid (Built wr w.heap.size len1 z1 k) ∧ Below w.heap.size w wr) (fun i _ => len1 - (intOf i).toNat)
  case atStart => exact ⟨0, Nat.zero_le _, rfl, hB0, hbel0⟩
  case round =>
    obtain ⟨k, hk, rfl, hB, hbel⟩ := hrel
    by_cases hlt : k < len1
    · obtain ⟨b, off, rfl, hb, hle, hc, hwf⟩ := nums_at (nums_below HN.out hbel) (by omega)
      have g := hc k hlt
      have hw := bounds_u8 (hwf k hlt)
      obtain ⟨v0, gv, gf⟩ := built_cell hB.out hlt
      have R : Hid (Built (wr.setCell ⟨w.heap.size, k, none⟩ (.int .u32 (chr (z1.getD k 0)))) w.heap.size len1 z1 (k + 1)) := built_step hB.out hlt
      unfold chr at R
      clear hc hwf HN hB
      generalize z1.getD k 0 = x at g hw R
      have hbel' : Below w.heap.size w (wr.setCell ⟨w.heap.size, k, none⟩ (.int .u32 (x % 95 + 32))) := hbel.setCell (Nat.le_refl _) _
      go_wp2
      go_roundw
      case rel => exact ⟨k + 1, by omega, by go_num, R, hbel'⟩
      case measure => simp [intOf]; omega
    · have hke : k = len1 := by omega
      subst hke
      have hle : k ≤ z1.length ∨ k = 0 := by
        rcases HN.out with ⟨_, h0⟩ | ⟨x, _, h0, _⟩
        · exact .inr h0
        · exact .inl h0
      go_wp2
      go_loop [7, 8] (fun q i => ∃ m : Nat, m ≤ k ∧ i = .int .i64 m ∧ q = .int .u8 (want false z1 m)) (fun _ i => k - (intOf i).toNat)
      case atStart => exact ⟨0, Nat.zero_le _, rfl, rfl⟩
      case round =>
        obtain ⟨m, hmk, rfl, rfl⟩ := hrel
        by_cases hlt2 : m < k
        · obtain ⟨b, off, rfl, hb, hle2, hc, hwf⟩ := nums_at (nums_below HN.out hbel) (by omega)
          have g := hc m hlt2
          have hw := bounds_u8 (hwf m hlt2)
          have HG : Hid (okc (chr (z1.getD m 0)) = true → want false z1 (m + 1) = want false z1 m) := want_good false z1 m (by omega)
          have HB : Hid (okc (chr (z1.getD m 0)) = false → want false z1 (m + 1) = 0) := want_bad false z1 m (by omega)
          clear hc hwf HN hB hbel hB0 hbel0 hle
          generalize z1.getD m 0 = x at g hw HG HB
          cases hx : okc (chr x) with
          | true =>
            obtain ⟨h1, h2, h3, h4, h5⟩ := okc_yes hx
            have HG' : Hid (want false z1 (m + 1) = want false z1 m) := HG.out hx
            unfold chr at h3 h4 h5
            have h3' : (x % 95 + 32 == 34) = false := by simpa using h3
            have h4' : (x % 95 + 32 == 39) = false := by simpa using h4
            have h5' : (x % 95 + 32 == 92) = false := by simpa using h5
            clear hx h1 h2 h3 h4 h5 HB HG
            go_wp2
            go_round
            case rel => exact ⟨m + 1, by omega, by go_num, by rw [HG'.out]⟩
            case measure => simp [intOf]; omega
          | false =>
            have HB' : Hid (want false z1 (m + 1) = 0) := HB.out hx
            have hcs := okc_no hx
            have hin := chr_in x
            unfold chr at hcs hin
            clear hx HB HG
            rcases hcs with h1 | h1 | h1 | h1 | h1
            · omega
            · omega
            · have h1' := beq_iff_eq.2 h1
              have H1 : Hid (x % 95 + 32 = _) := h1
              clear h1 hin
              go_wp2
              go_round
              case rel => exact ⟨m + 1, by omega, by go_num, by rw [HB'.out]⟩
              case measure => simp [intOf]; omega
            · have h1' := beq_iff_eq.2 h1
              have h2' : (x % 95 + 32 == 34) = false := by simp; omega
              have H1 : Hid (x % 95 + 32 = _) := h1
              clear h1 hin
              go_wp2
              go_round
              case rel => exact ⟨m + 1, by omega, by go_num, by rw [HB'.out]⟩
              case measure => simp [intOf]; omega
            · have h1' := beq_iff_eq.2 h1
              have h2' : (x % 95 + 32 == 34) = false := by simp; omega
              have h3' : (x % 95 + 32 == 39) = false := by simp; omega
              have H1 : Hid (x % 95 + 32 = _) := h1
              clear h1 hin
              go_wp2
              go_round
              case rel => exact ⟨m + 1, by omega, by go_num, by rw [HB'.out]⟩
              case measure => simp [intOf]; omega
        · have hme : m = k := by omega
          subst hme
          have hN2 : IsNums .u32 (wr.alloc (.cells #[.string ByteArray.empty, .bool false, .int .i64 0, .pointer none, .int .u8 4, .int .i64 0] 35)) (some ⟨w.heap.size, 0, none⟩) m (text z1 m) := by
            rcases hle with hle | hle
            · exact built_nums hB.out hle _
            · subst hle
              exact .inr ⟨_, rfl, Nat.zero_le _, fun i hi => absurd hi (by simp [text]), fun z hz => absurd hz (by simp [text])⟩
          have HN2 : Hid _ := hN2
          clear hN2
          go_wp2_with fail
          refine (textQuote_yes ByteArray.empty false 0 none 0 (some ⟨w.heap.size, 0, none⟩) m m (text z1 m) _ HN2.out hl1).mono ?_
          rintro e w' ⟨rfl, rfl⟩
          have ht : (text z1 m).take m = text z1 m := List.take_of_length_le (by simp [text]; omega)
          rw [ht]
          have hq : (quote 4 false (text z1 m) != want false z1 m) = false := bne_want _ _ _
          have Ht : Hid ((text z1 m).take m = text z1 m) := ht
          clear ht HN2
          have hsz := hbel.size
          have hlB := built_lt hB.out
          have hbel2 : Below w.heap.size w ((wr.alloc (.cells #[.string ByteArray.empty, .bool false, .int .i64 0, .pointer none, .int .u8 4, .int .i64 0] 35)).alloc (.cells #[.string ByteArray.empty, .bool false, .int .i64 0, .pointer none, .int .u8 4, .int .i64 0] 35)) := (hbel.alloc hsz _).alloc (by simp; omega) _
          have hrd : ∀ j, j < m → ((wr.alloc (.cells #[.string ByteArray.empty, .bool false, .int .i64 0, .pointer none, .int .u8 4, .int .i64 0] 35)).alloc (.cells #[.string ByteArray.empty, .bool false, .int .i64 0, .pointer none, .int .u8 4, .int .i64 0] 35)).cell? ⟨w.heap.size, j, none⟩ = some (.int .u32 (chr (z1.getD j 0))) := fun j hj => by
            rw [World.cell?_of_block (Below.heap_alloc _ _ _ (by simp; omega)), World.cell?_of_block (Below.heap_alloc _ _ _ hlB)]
            exact built_read hB.out hj
          have HR : Hid _ := hrd
          clear hrd hB hB0 hbel0
          go_wp2
          generalize ((wr.alloc (.cells #[.string ByteArray.empty, .bool false, .int .i64 0, .pointer none, .int .u8 4, .int .i64 0] 35)).alloc (.cells #[.string ByteArray.empty, .bool false, .int .i64 0, .pointer none, .int .u8 4, .int .i64 0] 35)) = W at hbel2 HR
          go_loopw [12] (fun i wq => ∃ j q : Nat, j ≤ m ∧ i = .int .i64 j ∧ wq = W.drewN q) (fun i _ => m - (intOf i).toNat)
          case atStart => exact ⟨0, 0, Nat.zero_le _, rfl, rfl⟩
          case round =>
            obtain ⟨j, q, hj, rfl, rfl⟩ := hrel
            by_cases hlt3 : j < m
            · obtain ⟨b, off, rfl, hb, hle2, hc, hwf⟩ := nums_at (nums_below HN.out hbel2) (by omega)
              have g := hc j hlt3
              have hw := bounds_u8 (hwf j hlt3)
              have g2 := HR.out j hlt3
              unfold chr at g2
              clear hc hwf HN HR hbel2 hbel
              generalize z1.getD j 0 = x at g hw g2
              go_wp2_with fail
              go_region
              go_wp2
              go_roundw
              case rel => exact ⟨j + 1, q + 1, by omega, by go_num, rfl⟩
              case measure => simp [intOf]; omega
            · clear HR HN
              go_wp2
              go_ret
              exact ⟨rfl, hbel2.trans ⟨rfl, rfl, rfl, Nat.le_refl _, fun _ _ => rfl⟩⟩

theorem walk (a0 : Bool) (a1 : Option Addr) (len1 cap1 : Nat) (z1 : List Int) (w : World) (w1 : IsRow .u8 w a1 len1 cap1 z1) :
    Calls Yba.prog 6 #[.bool a0, .slice a1 len1 cap1] w fun e w' => e = .returned (.bool true) ∧ Below w.heap.size w w' := by
  cases a0 with
  | true => exact walkT a1 len1 cap1 z1 w w1
  | false => exact walkF a1 len1 cap1 z1 w w1

/-! ### THE ROW's STEP: WRITTEN OUT: LEAVE IT -/
set_option maxRecDepth 100000 in
theorem lifted (os : Os) (started : os.Started) (H : Type) (enc : TypeId × Value → H) :
    ReturnsInHanded {} Yba.checked os 6 .any (Rows.lawS4633BTextSpec.pre6 enc Yba.prog Yba.f6 Rows.lawS4633BTextRow.domain false) (Rows.lawS4633BTextSpec.post enc Yba.prog Yba.f6 false true false false) := by
  refine returnsInHanded_of_change (C := Yba.checked) own started (by kernel_rfl) Yba.func6
    (ChangeSpec.witness6 (enc := enc) (C := Yba.checked) false ⟨#[], #[.bool false, .slice none 0 0], []⟩ 8 (by kernel_rfl) (by kernel_rfl) (by kernel_rfl) (by kernel_rfl)) ?_
  intro W base args ds gs before hval0 hW hcnd _
  have hval : ∀ (j : Nat) t v, Yba.f6.params[j]? = some t → args[j]? = some v → Value.okWide Yba.prog W .any base t v := hval0
  have hW' := hW
  obtain ⟨p, q, hA0, hV, rfl, hfz, hnd⟩ := hW
  have hA : DataW.TrodAll enc Yba.prog W 0 (fun _ => true) true Yba.f6.params.toList args.toList ds p := hA0
  rw [Yba.params6] at hA hval
  obtain ⟨v0, vs0, d0, ds0, p0, q0, hargs, rfl, rfl, h0, r0⟩ := trodAll_cons hA
  obtain ⟨v1, vs1, d1, ds1, p1, q1, rfl, rfl, rfl, h1, r1⟩ := trodAll_cons r0
  obtain ⟨rfl, rfl, rfl⟩ := trodAll_nil r1
  obtain rfl : args = #[v0, v1] := by cases args; simp_all
  obtain ⟨rfl, rfl⟩ := trodVars_none hV
  obtain ⟨a0, rfl, rfl, rfl⟩ := open_bool Yba.underlying4 (hval 0 4 v0 rfl rfl) h0
  obtain ⟨a1, len1, cap1, rfl⟩ := okWide_slice Yba.underlying39 (hval 1 39 v1 rfl rfl)
  have k1 := h1
  have lt1 : ∀ x ∈ p1, x.block < W.heap.size := by obtain ⟨m, hm⟩ := k1; exact DataW.trod_lt m _ _ _ hm
  obtain ⟨z1, w1⟩ : ∃ zs, IsRow .u8 W a1 len1 cap1 zs := by
    obtain ⟨fuel, hf⟩ := h1
    rcases open_ints Yba.underlying39 Yba.underlying5 (by kernel_rfl) hf with ⟨hcs, _⟩ | ⟨x, l, c, zs, hcs, _, hl, hm, hz, _, hcell, hwz⟩
    · simp [Value.cells] at hcs
      obtain ⟨rfl, rfl, rfl⟩ := hcs
      exact ⟨[], .inl ⟨rfl, rfl, rfl, rfl⟩⟩
    · simp [Value.cells] at hcs
      obtain ⟨rfl, rfl, rfl⟩ := hcs
      exact ⟨zs, .inr ⟨_, rfl, hl, hm, by simpa using hz, hcell, hwz⟩⟩
  clear hA0 hval0
  refine (walk a0 a1 len1 cap1 z1 W w1).mono fun e W' ⟨he, bel⟩ => ?_
  subst he
  exact ⟨_, rfl, _, _, _, [], _, [], hW', trodAll_mk1 (shut_bool Yba.underlying4 _), (trodAll_cons_mk (shut_bool Yba.underlying4 _) (trodAll_cons_mk (Below.trod laidOut (by kernel_rfl) (of_decide_eq_true (by kernel_rfl)) k1 bel lt1) trodAll_mk0)), rfl, bel.frame _, fun h => by cases h⟩

theorem over : Rows.lawS4633BTextRow.holds Yba.pinned (OpenSpec.ofChange Rows.lawS4633BTextSpec) :=
  OpenClaim.holds_of_wide 6 Yba.f6 rfl rfl rfl rfl rfl rfl rfl ⟨rfl, rfl, rfl, rfl, rfl⟩ rfl rfl rfl rfl rfl (by kernel_rfl) Yba.func6 (by kernel_rfl)
    (of_decide_eq_true (by kernel_rfl)) (by unfold Func.isWrapper; first | (rw [if_pos (by decide +kernel)]; kernel_rfl) | (rw [if_neg (by decide +kernel)]; exact ⟨rfl, rfl⟩))
    (fun os started H enc _ => lifted os started H enc)

/-- ████ THE STATEMENT ████ -/
theorem proved : Rows.LawS4633BTextSaid := over
#print axioms proved
end Go.Proofs.Ybulkcqxs.lawS4633BText

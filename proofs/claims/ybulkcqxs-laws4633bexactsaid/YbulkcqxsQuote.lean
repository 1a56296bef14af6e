/-
  The plain law of a quote, and the contracts of textQuote and of its model.
-/
import Derived.Test.YbulkcqxsRows
import Derived.WalkKit
import Derived.WalkSpells
import Derived.OpenShut
import Derived.Outline
namespace Go.Proofs.Ybulkcqxs
open Go Go.RowKit
set_option linter.unusedVariables false

/-- May the character stand in a quoted text? -/
def okc (c : Int) : Bool := decide (32 ≤ c ∧ c ≤ 126 ∧ c ≠ 34 ∧ c ≠ 39 ∧ c ≠ 92)
/-- The quote of a text. -/
def quote (kind : Int) (mpl : Bool) (l : List Int) : Int := if kind = 4 ∧ l.all okc = true then (if mpl then 39 else 34) else 0

theorem okc_yes {c : Int} (h : okc c = true) : 32 ≤ c ∧ c ≤ 126 ∧ c ≠ 34 ∧ c ≠ 39 ∧ c ≠ 92 := by simpa [okc] using h
theorem okc_no {c : Int} (h : okc c = false) : c < 32 ∨ 126 < c ∨ c = 34 ∨ c = 39 ∨ c = 92 := by
  simp only [okc, decide_eq_false_iff_not] at h
  omega
theorem okc_in {c : Int} (h : 32 ≤ c ∧ c ≤ 126) : okc c = (c != 34 && c != 39 && c != 92) := by
  cases e : okc c with
  | true => have := okc_yes e; simp; omega
  | false => have := okc_no e; simp; omega

theorem all_snoc (zs : List Int) (k : Nat) (h : k < zs.length) : (zs.take (k + 1)).all okc = ((zs.take k).all okc && okc (zs.getD k 0)) := by
  rw [List.take_succ_eq_append_getElem h, List.all_append]
  simp [List.getD, h]
theorem all_bad (zs : List Int) (n k : Nat) (h : k < zs.length) (hn : k < n) (hb : okc (zs.getD k 0) = false) : (zs.take n).all okc = false := by
  have e : (zs.take (k + 1)).all okc = false := by rw [all_snoc zs k h, hb]; simp
  have hp : zs.take (k + 1) = (zs.take n).take (k + 1) := by rw [List.take_take]; congr 1; omega
  rw [hp] at e
  cases e2 : (zs.take n).all okc with
  | false => rfl
  | true =>
    have : ((zs.take n).take (k + 1)).all okc = true := List.all_eq_true.2 (fun x hx => List.all_eq_true.1 e2 x (List.mem_of_mem_take hx))
    rw [this] at e; cases e

theorem quote_no (k : Int) (hk : k ≠ 4) (mpl : Bool) (l : List Int) : quote k mpl l = 0 := by simp [quote, hk]
theorem quote_bad (mpl : Bool) (l : List Int) (h : l.all okc = false) : quote 4 mpl l = 0 := by simp [quote, h]
theorem quote_good (mpl : Bool) (l : List Int) (h : l.all okc = true) : quote 4 mpl l = if mpl then 39 else 34 := by simp [quote, h]

/-- A slice of numbers: nil, or a row of cells. -/
def IsNums (k : IntKind) (w : World) (a : Option Addr) (len : Nat) (zs : List Int) : Prop :=
  (a = none ∧ len = 0) ∨ ∃ x, a = some x ∧ len ≤ zs.length ∧ (∀ i, i < zs.length → w.cell? (x.add i) = some (.int k (zs.getD i 0))) ∧ ∀ z ∈ zs, (Lit.int k z).wf = true

theorem nums_at {k : IntKind} {w : World} {a : Option Addr} {len : Nat} {zs : List Int} (h : IsNums k w a len zs) (hpos : 0 < len) :
    ∃ b off, a = some ⟨b, off, none⟩ ∧ b < w.heap.size ∧ len ≤ zs.length ∧ (∀ j, j < len → w.cell? ⟨b, off + j, none⟩ = some (.int k (zs.getD j 0))) ∧ ∀ j, j < len → (Lit.int k (zs.getD j 0)).wf = true := by
  rcases h with ⟨_, h0⟩ | ⟨x, rfl, hl, hc, hm⟩
  · omega
  · obtain ⟨b, off, spot⟩ := x
    have hspot : spot = none := by simpa [Addr.add] using World.cell?_spot (hc 0 (by omega))
    subst hspot
    refine ⟨b, off, rfl, World.block_lt_of_cell? w _ (hc 0 (by omega)), hl, fun j hj => ?_, fun j hj => ?_⟩
    · rw [← hc j (by omega), Addr.add_lit]
    · apply hm
      rw [List.getD_eq_getElem?_getD, List.getElem?_eq_getElem (by omega)]
      exact List.getElem_mem _

def item (nm : ByteArray) (mpl : Bool) (line : Int) (p : Option Addr) (kind size : Int) : Array Value := #[.string nm, .bool mpl, .int .i64 line, .pointer p, .int .u8 kind, .int .i64 size]

theorem ret_int {k : IntKind} {a b : Int} (h : a = b) : Ending.returned (.int k a) = .returned (.int k b) := by rw [h]

set_option maxHeartbeats 1000000 in
theorem textQuote_no (nm : ByteArray) (mpl : Bool) (line : Int) (p : Option Addr) (kind size : Int) (hk : (kind == 4) = false) (a : Option Addr) (len cap : Nat) (w : World) :
    Calls Yba.prog 9 #[.agg #[.string nm, .bool mpl, .int .i64 line, .pointer p, .int .u8 kind, .int .i64 size], .slice a len cap] w fun e w' =>
      e = .returned (.int .u8 0) ∧ w' = w.alloc (.cells #[.string nm, .bool mpl, .int .i64 line, .pointer p, .int .u8 kind, .int .i64 size] 35) := by
  go_enter Yba.func9, Yba.ntmps9
  go_wp2
  go_ret
  exact ⟨rfl, rfl⟩

set_option maxHeartbeats 2000000 in
theorem textQuote_yes (nm : ByteArray) (mpl : Bool) (line : Int) (p : Option Addr) (size : Int) (a : Option Addr) (len cap : Nat) (zs : List Int) (w : World) (h : IsNums .u32 w a len zs) (hlen : len ≤ 1024) :
    Calls Yba.prog 9 #[.agg #[.string nm, .bool mpl, .int .i64 line, .pointer p, .int .u8 4, .int .i64 size], .slice a len cap] w fun e w' =>
      e = .returned (.int .u8 (quote 4 mpl (zs.take len))) ∧ w' = w.alloc (.cells #[.string nm, .bool mpl, .int .i64 line, .pointer p, .int .u8 4, .int .i64 size] 35) := by
  have HS : Hid (IsNums .u32 w a len zs) := h
  clear h
  go_enter Yba.func9, Yba.ntmps9
  go_wp2
  go_loop [12] (fun i => ∃ k : Nat, k ≤ len ∧ i = .int .i64 k ∧ Hid ((zs.take k).all okc = true)) (fun i => len - (intOf i).toNat)
  case atStart => exact ⟨0, Nat.zero_le _, rfl, rfl⟩
  case round =>
    obtain ⟨k, hk, rfl, hall⟩ := hrel
    by_cases hlt : k < len
    · obtain ⟨b, off, rfl, hb, hl, hc, hwf⟩ := nums_at HS.out (by omega)
      have g : ∀ o, (w.alloc o).cell? ⟨b, off + k, none⟩ = some (.int .u32 (zs.getD k 0)) := fun o => (World.cell?_of_block (Below.heap_alloc w o b hb)).trans (hc k hlt)
      have hw := bounds_u32 (hwf k hlt)
      have HB : Hid (okc (zs.getD k 0) = false → (zs.take len).all okc = false) := all_bad zs len k (by omega) hlt
      have HG : Hid (okc (zs.getD k 0) = true → (zs.take (k + 1)).all okc = true) := fun e => by rw [all_snoc zs k (by omega), hall.out, e]; rfl
      clear hc hwf HS hall
      generalize zs.getD k 0 = x at g hw HB HG
      cases hx : okc x with
      | true =>
        obtain ⟨h1, h2, h3, h4, h5⟩ := okc_yes hx
        have h3' : (x == 34) = false := by simpa using h3
        have h4' : (x == 39) = false := by simpa using h4
        have h5' : (x == 92) = false := by simpa using h5
        have HG' : Hid ((zs.take (k + 1)).all okc = true) := HG.out hx
        clear hx h3 h4 h5 HB HG
        go_wp2
        go_round
        case rel => exact ⟨k + 1, by omega, by go_num, HG'⟩
        case measure => simp [intOf]; omega
      | false =>
        have hr : Hid (quote 4 mpl (zs.take len) = 0) := quote_bad _ _ (HB.out hx)
        have hcs := okc_no hx
        clear hx HB HG
        rcases hcs with h1 | h1 | rfl | rfl | rfl
        all_goals
          go_wp2
          go_ret
          exact ⟨ret_int hr.out.symm, rfl⟩
    · have : k = len := by omega
      subst this
      have hr : Hid (quote 4 mpl (zs.take k) = if mpl then 39 else 34) := quote_good _ _ hall.out
      clear hall HS
      cases mpl with
      | true =>
        go_wp2
        go_ret
        exact ⟨ret_int hr.out.symm, rfl⟩
      | false =>
        go_wp2
        go_ret
        exact ⟨ret_int hr.out.symm, rfl⟩

theorem wrap_low {x : Int} (h : 0 ≤ x) (h2 : x < 32) : IntKind.u32.wrap (x - 32) = x + 4294967264 := by
  simp [IntKind.wrap, IntKind.signed, IntKind.bits]
  omega

set_option maxHeartbeats 1000000 in
theorem model_no (mpl : Bool) (kind : Int) (hk : (kind == 4) = false) (a : Option Addr) (len cap : Nat) (w : World) :
    Calls Yba.prog 10 #[.int .u8 kind, .bool mpl, .slice a len cap] w fun e w' => e = .returned (.int .u8 0) ∧ w' = w := by
  go_enter Yba.func10, Yba.ntmps10
  go_wp2
  go_ret
  exact ⟨rfl, rfl⟩

set_option maxHeartbeats 2000000 in
theorem model_yes (mpl : Bool) (a : Option Addr) (len cap : Nat) (zs : List Int) (w : World) (h : IsNums .u32 w a len zs) (hlen : len ≤ 1024) :
    Calls Yba.prog 10 #[.int .u8 4, .bool mpl, .slice a len cap] w fun e w' => e = .returned (.int .u8 (quote 4 mpl (zs.take len))) ∧ w' = w := by
  have HS : Hid (IsNums .u32 w a len zs) := h
  clear h
  go_enter Yba.func10, Yba.ntmps10
  go_wp2
  go_loop [7] (fun i => ∃ k : Nat, k ≤ len ∧ i = .int .i64 k ∧ Hid ((zs.take k).all okc = true)) (fun i => len - (intOf i).toNat)
  case atStart => exact ⟨0, Nat.zero_le _, rfl, rfl⟩
  case round =>
    obtain ⟨k, hk, rfl, hall⟩ := hrel
    by_cases hlt : k < len
    · obtain ⟨b, off, rfl, hb, hl, hc, hwf⟩ := nums_at HS.out (by omega)
      have g : w.cell? ⟨b, off + k, none⟩ = some (.int .u32 (zs.getD k 0)) := hc k hlt
      have hw := bounds_u32 (hwf k hlt)
      have HB : Hid (okc (zs.getD k 0) = false → (zs.take len).all okc = false) := all_bad zs len k (by omega) hlt
      have HG : Hid (okc (zs.getD k 0) = true → (zs.take (k + 1)).all okc = true) := fun e => by rw [all_snoc zs k (by omega), hall.out, e]; rfl
      clear hc hwf HS hall
      generalize zs.getD k 0 = x at g hw HB HG
      cases hx : okc x with
      | true =>
        obtain ⟨h1, h2, h3, h4, h5⟩ := okc_yes hx
        have h3' : (x == 34) = false := by simpa using h3
        have h4' : (x == 39) = false := by simpa using h4
        have h5' : (x == 92) = false := by simpa using h5
        have HG' : Hid ((zs.take (k + 1)).all okc = true) := HG.out hx
        clear hx h3 h4 h5 HB HG
        go_wp2
        go_round
        case rel => exact ⟨k + 1, by omega, by go_num, HG'⟩
        case measure => simp [intOf]; omega
      | false =>
        have hr : Hid (quote 4 mpl (zs.take len) = 0) := quote_bad _ _ (HB.out hx)
        have hcs := okc_no hx
        clear hx HB HG
        rcases hcs with h1 | h1 | rfl | rfl | rfl
        · have hwr := wrap_low hw.1 h1
          go_wp2
          go_ret
          exact ⟨ret_int hr.out.symm, rfl⟩
        all_goals
          go_wp2
          go_ret
          exact ⟨ret_int hr.out.symm, rfl⟩
    · have : k = len := by omega
      subst this
      have hr : Hid (quote 4 mpl (zs.take k) = if mpl then 39 else 34) := quote_good _ _ hall.out
      clear hall HS
      cases mpl with
      | true =>
        go_wp2
        go_ret
        exact ⟨ret_int hr.out.symm, rfl⟩
      | false =>
        go_wp2
        go_ret
        exact ⟨ret_int hr.out.symm, rfl⟩
end Go.Proofs.Ybulkcqxs

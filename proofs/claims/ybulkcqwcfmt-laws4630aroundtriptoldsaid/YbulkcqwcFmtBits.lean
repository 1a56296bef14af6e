/-
  The contracts of math/bits at this program's numbers: TrailingZeros64, TrailingZeros8, Len64, LeadingZeros64, OnesCount64. (After the shelf's own walks.)
-/
import Derived.Test.YbulkcqwcFmtRows
import Derived.Test.YbulkcqwcFmtPop
import Derived.WalkKit
import Derived.WalkSpells
import Derived.Laws.Bits64b
import Derived.Lib.TrailingZeros
import Derived.Lib.BitFns
import Derived.OpenShut
import Derived.Outline
namespace Go.Proofs.YbulkcqwcFmt
open Go Go.RowKit
set_option linter.unusedVariables false

/-- The table in its variable. -/
def Tab (w : World) : Prop := ∀ j, j < 64 → w.cell? ⟨0, j, none⟩ = some (.int .u8 (Lib.deBruijn64tab.getD j 0))

theorem Tab.below {w w' : World} {B : Nat} (h : Tab w) (hb : Below B w w') (hB : 0 < B) : Tab w' := fun j hj => (hb.cell (p := ⟨0, j, none⟩) hB).trans (h j hj)

set_option maxHeartbeats 1000000 in
theorem tz64_core (x k idx : Nat) (w : World) (hx0 : ((x : Int) == 0) = false)
    (key : IntKind.u64.wrap (bits BinOp.and IntKind.u64 (x : Int) (IntKind.u64.wrap (-(x : Int))) * 285870213051353865) / 288230376151711744 = (idx : Int))
    (hi : idx < 64) (hk : k < 64) (hcell : w.cell? ⟨0, idx, none⟩ = some (.int .u8 k)) :
    Calls Ybaf.prog 23 #[.int .u64 x] w fun e w' => e = .returned (.int .i64 k) ∧ w' = w := by
  go_enter Ybaf.func23, Ybaf.ntmps23
  go_wp2_with (simp only [key])
  go_ret
  exact ⟨rfl, rfl⟩

theorem tz64_key (x a : Nat) (hx : x < 18446744073709551616) (hx0 : x ≠ 0) (hlow : x &&& (18446744073709551616 - x) = a) :
    IntKind.u64.wrap (bits BinOp.and IntKind.u64 (x : Int) (IntKind.u64.wrap (-(x : Int))) * 285870213051353865) / 288230376151711744 = ((a * 285870213051353865 % 18446744073709551616 / 288230376151711744 : Nat) : Int) := by
  have e1 : IntKind.u64.wrap (-(x : Int)) = ((18446744073709551616 - x : Nat) : Int) := by rw [IntKind.wrap_u64]; omega
  rw [e1, bits_and_u64_nat x _ hx (by omega), hlow, IntKind.wrap_u64]
  omega

/-- TrailingZeros64 of a number that is not 0. -/
theorem tz64 (x : Nat) (hx : x < 18446744073709551616) (hx0 : x ≠ 0) (w : World) (hT : Tab w) :
    Calls Ybaf.prog 23 #[.int .u64 x] w fun e w' => e = .returned (.int .i64 (Lib.ctz 64 x)) ∧ w' = w := by
  obtain ⟨hlow, hk⟩ := Lib.lowest_bit 64 x hx0 hx
  obtain ⟨hi, htab⟩ := Lib.deBruijn64_at _ hk
  have hcell := hT _ hi
  rw [htab] at hcell
  exact tz64_core x _ _ w (by simp; omega) (tz64_key x _ hx hx0 hlow) hi hk hcell

theorem tz8_num (x : Int) (h0 : 0 ≤ x) (h1 : x ≤ 255) : wrap64 (Lib.ntz8 x) = (Lib.trailingZeros8 x.toNat : Int) := by
  unfold wrap64
  exact Lib.ntz8_int x h0 h1

set_option maxHeartbeats 1000000 in
set_option maxRecDepth 100000 in
theorem tz8_raw (x : Int) (w : World) (h0 : 0 ≤ x) (h1 : x ≤ 255) :
    Calls Ybaf.prog 17 #[.int .u8 x] w fun e w' => e = .returned (.int .i64 (Lib.trailingZeros8 x.toNat)) ∧ w' = w := by
  go_enter Ybaf.func17, Ybaf.ntmps17
  go_wp2
  go_ret
  refine ⟨congrArg Ending.returned (congrArg (Value.int IntKind.i64) ?_), rfl⟩
  exact tz8_num x h0 h1

theorem l8 (i : Int) (h0 : 0 ≤ i) (h1 : i ≤ 255) (h : i.toNat < Lib.len8tab.size) : wrap64 ((Lib.len8tab[i.toNat]'h).toNat : Int) = (Lib.bitLen i.toNat : Int) := by
  have e := Lib.len8_of i h0 h1
  have l := Lib.bitLen_le8' i h0 h1
  unfold Lib.len8 at e
  rw [getElem?_pos Lib.len8tab i.toNat h, Option.getD_some] at e
  rw [e, wrap64]
  omega

set_option maxHeartbeats 4000000 in
set_option maxRecDepth 100000 in
theorem len64 (x : Int) (w : World) (h0 : 0 ≤ x) (h1 : x ≤ 18446744073709551615) :
    Calls Ybaf.prog 33 #[.int .u64 x] w fun e w' => e = .returned (.int .i64 (Lib.bitLen x.toNat)) ∧ w' = w := by
  have hsz : Lib.len8tab.size = 256 := by decide +kernel
  go_enter Ybaf.func33, Ybaf.ntmps33
  go_wp2
  all_goals (go_ret; refine ⟨congrArg Ending.returned (congrArg (Value.int IntKind.i64) ?_), rfl⟩)
  · rw [l8 _ (by omega) (by omega)]
    have e : (x / 4294967296 / 65536 / 256).toNat = x.toNat / 72057594037927936 := by omega
    have l := Lib.bitLen_le8' (x / 4294967296 / 65536 / 256) (by omega) (by omega)
    have s := Lib.bitLen_shift56 x.toNat (by omega) (by omega)
    rw [e] at l ⊢
    rw [wrap64]; omega
  · rw [l8 _ (by omega) (by omega)]
    have e : (x / 4294967296 / 65536).toNat = x.toNat / 281474976710656 := by omega
    have l := Lib.bitLen_le8' (x / 4294967296 / 65536) (by omega) (by omega)
    have s := Lib.bitLen_shift48 x.toNat (by omega) (by omega)
    rw [e] at l ⊢
    rw [wrap64]; omega
  · rw [l8 _ (by omega) (by omega)]
    have e : (x / 4294967296 / 256).toNat = x.toNat / 1099511627776 := by omega
    have l := Lib.bitLen_le8' (x / 4294967296 / 256) (by omega) (by omega)
    have s := Lib.bitLen_shift40 x.toNat (by omega) (by omega)
    rw [e] at l ⊢
    rw [wrap64]; omega
  · rw [l8 _ (by omega) (by omega)]
    have e : (x / 4294967296).toNat = x.toNat / 4294967296 := by omega
    have l := Lib.bitLen_le8' (x / 4294967296) (by omega) (by omega)
    have s := Lib.bitLen_shift32 x.toNat (by omega) (by omega)
    rw [e] at l ⊢
    rw [wrap64]; omega
  · rw [l8 _ (by omega) (by omega)]
    have e : (x / 65536 / 256).toNat = x.toNat / 16777216 := by omega
    have l := Lib.bitLen_le8' (x / 65536 / 256) (by omega) (by omega)
    have s := Lib.bitLen_shift24 x.toNat (by omega) (by omega)
    rw [e] at l ⊢
    rw [wrap64]; omega
  · rw [l8 _ (by omega) (by omega)]
    have e : (x / 65536).toNat = x.toNat / 65536 := by omega
    have l := Lib.bitLen_le8' (x / 65536) (by omega) (by omega)
    have s := Lib.bitLen_shift16 x.toNat (by omega) (by omega)
    rw [e] at l ⊢
    rw [wrap64]; omega
  · rw [l8 _ (by omega) (by omega)]
    have e : (x / 256).toNat = x.toNat / 256 := by omega
    have l := Lib.bitLen_le8' (x / 256) (by omega) (by omega)
    have s := Lib.bitLen_shift8 x.toNat (by omega) (by omega)
    rw [e] at l ⊢
    rw [wrap64]; omega
  · rw [l8 _ (by omega) (by omega)]
    have l := Lib.bitLen_le8' x (by omega) (by omega)
    try rw [wrap64]
    omega

theorem lz64 (x : Int) (w : World) (h0 : 0 ≤ x) (h1 : x ≤ 18446744073709551615) :
    Calls Ybaf.prog 32 #[.int .u64 x] w fun e w' => e = .returned (.int .i64 (64 - (Lib.bitLen x.toNat : Int))) ∧ w' = w := by
  have l := Lib.bitLen_le x.toNat 64 (by omega) (by omega)
  go_enter Ybaf.func32, Ybaf.ntmps32
  go_wp2_with (go_at_call 33; refine (len64 x _ h0 h1).mono ?_; rintro e w' ⟨rfl, rfl⟩)
  go_ret
  exact ⟨rfl, rfl⟩

set_option maxHeartbeats 4000000 in
set_option maxRecDepth 100000 in
theorem ones_core (x a1 a2 a3 a4 a5 a6 r : Nat) (w : World) 
    (k1 : IntKind.u64.wrap (bits .and .u64 ((x : Int) / 2) 6148914691236517205 + bits .and .u64 (x : Int) 6148914691236517205) = (a1 : Int))
    (k2 : IntKind.u64.wrap (bits .and .u64 ((a1 : Int) / 4) 3689348814741910323 + bits .and .u64 (a1 : Int) 3689348814741910323) = (a2 : Int))
    (k3 : bits .and .u64 (IntKind.u64.wrap ((a2 : Int) / 16 + (a2 : Int))) 1085102592571150095 = (a3 : Int))
    (k4 : IntKind.u64.wrap ((a3 : Int) + (a3 : Int) / 256) = (a4 : Int))
    (k5 : IntKind.u64.wrap ((a4 : Int) + (a4 : Int) / 65536) = (a5 : Int))
    (k6 : IntKind.u64.wrap ((a5 : Int) + (a5 : Int) / 4294967296) = (a6 : Int))
    (k7 : bits .and .i64 (wrap64 (a6 : Int)) 127 = (r : Int)) :
    Calls Ybaf.prog 28 #[.int .u64 x] w fun e w' => e = .returned (.int .i64 r) ∧ w' = w := by
  go_enter Ybaf.func28, Ybaf.ntmps28
  go_wp2_with (simp only [k1, k2, k3, k4, k5, k6, k7])
  go_ret
  exact ⟨rfl, rfl⟩
end Go.Proofs.YbulkcqwcFmt

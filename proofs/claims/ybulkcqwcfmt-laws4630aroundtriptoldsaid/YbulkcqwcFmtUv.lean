/-
  The contract of binary.Uvarint at bytes that AppendUvarint wrote (numbers below 2^35), and of AppendUvarint and slices.Equal.
-/
import Derived.Test.YbulkcqwcFmtRows
import Derived.Test.YbulkcqwcFmtLaws
import Derived.Lib.VarintBits
import Derived.Lib.Varint
import Derived.WalkKit
import Derived.WalkSpells
import Derived.Laws.Closers25b
import Derived.Deep.QuietTactic
import Derived.BigQuiet
import Derived.Deep.LoopGhost
namespace Go.Proofs.YbulkcqwcFmt
open Go Go.RowKit
set_option linter.unusedVariables false

set_option maxHeartbeats 8000000 in
set_option maxRecDepth 100000 in
theorem uvdec (g o n c x : Nat) (w : World) (hx : x < 34359738368) (hn : (Lib.uvarint x).length ≤ n) (hn' : n ≤ 1048576) (hcell : ∀ j (hj : j < (Lib.uvarint x).length), w.cell? ⟨g, o + j, none⟩ = some (.int .u8 ((Lib.uvarint x)[j]).toNat)) :
    Calls Ybaf.prog 24 #[.slice (some ⟨g, o, none⟩) n c] w fun e w' => e = .returned (.tuple #[.int .u64 x, .int .i64 (Lib.uvarint x).length]) ∧ w' = w := by
  go_enter Ybaf.func24, Ybaf.ntmps24
  go_wp2
  go_loop [4, 5, 10] (fun vx vs vi => ∃ (k acc y : Nat) (pre : List UInt8), vi = .int .i64 k ∧ vs = .int .u64 ((7 * k : Nat) : Int) ∧ vx = .int .u64 acc ∧ k ≤ 4 ∧ acc < 128 ^ k ∧ acc + y * 128 ^ k = x ∧ (k = 0 ∨ 1 ≤ y) ∧ Lib.uvarint x = pre ++ Lib.uvarint y ∧ pre.length = k)
    (fun _ _ vi => 10 - (intOf vi).toNat)
  case atStart => exact ⟨0, 0, x, [], rfl, rfl, rfl, by omega, by decide, by simp, .inl rfl, rfl, rfl⟩
  case round =>
    obtain ⟨k, acc, y, pre, rfl, rfl, rfl, hk4, hacc, hsum, hy1, hsplit, hpre⟩ := hrel
    have hlen := congrArg List.length hsplit
    rw [List.length_append, hpre] at hlen
    have hyp := Lib.uvarint_pos y
    have hc := hcell k (by omega)
    have hget : ((Lib.uvarint x)[k]'(by omega)).toNat = if y < 128 then y else y % 128 + 128 := by
      have : (Lib.uvarint x)[k]'(by omega) = (Lib.uvarint y)[0]'(by omega) := by
        simp only [hsplit]
        rw [List.getElem_append_right (by omega)]
        simp [hpre]
      rw [this]
      by_cases h : y < 128
      · rw [if_pos h]
        simp only [Lib.uvarint_small h]
        simp
        omega
      · rw [if_neg h]
        simp only [Lib.uvarint_big (by omega : 128 ≤ y)]
        simp
        omega
    rw [hget] at hc
    have HL : Hid ((Lib.uvarint x).length = k + (Lib.uvarint y).length) := hlen
    have HS : Hid (Lib.uvarint x = pre ++ Lib.uvarint y) := hsplit
    have hkn : (k : Int) < (n : Int) := by omega
    clear hcell hlen hsplit hget
    have hks : k = 0 ∨ k = 1 ∨ k = 2 ∨ k = 3 ∨ k = 4 := by omega
    by_cases hy : y < 128
    · rw [if_pos hy] at hc
      have hone : (Lib.uvarint y).length = 1 := by rw [Lib.uvarint_small hy]; rfl
      rcases hks with rfl | rfl | rfl | rfl | rfl
      · simp only [show (128 : Nat) ^ 0 = 1 by decide] at hacc hsum
        obtain rfl : acc = 0 := by omega
        have hc0 : w.cell? ⟨g, o, none⟩ = some (.int .u8 y) := hc
        have hor : bits .or .u64 0 (y : Int) = (x : Int) := by
          rw [u64_orv0 _ _ (by omega) (by omega) (by omega) (by omega) (by omega)]
          omega
        go_wp2
        go_ret2
        rw [HL.out, hone]
        exact ⟨rfl, rfl⟩
      · simp only [show (128 : Nat) ^ 1 = 128 by decide] at hacc hsum
        have hor : bits .or .u64 (acc : Int) ((y : Int) * 128) = (x : Int) := by
          rw [u64_orv7 _ _ (by omega) (by omega) (by omega) (by omega) (by omega)]
          omega
        go_wp2
        go_ret2
        rw [HL.out, hone]
        exact ⟨rfl, rfl⟩
      · simp only [show (128 : Nat) ^ 2 = 16384 by decide] at hacc hsum
        have hor : bits .or .u64 (acc : Int) ((y : Int) * 16384) = (x : Int) := by
          rw [u64_orv14 _ _ (by omega) (by omega) (by omega) (by omega) (by omega)]
          omega
        go_wp2
        go_ret2
        rw [HL.out, hone]
        exact ⟨rfl, rfl⟩
      · simp only [show (128 : Nat) ^ 3 = 2097152 by decide] at hacc hsum
        have hor : bits .or .u64 (acc : Int) ((y : Int) * 2097152) = (x : Int) := by
          rw [u64_orv21 _ _ (by omega) (by omega) (by omega) (by omega) (by omega)]
          omega
        go_wp2
        go_ret2
        rw [HL.out, hone]
        exact ⟨rfl, rfl⟩
      · simp only [show (128 : Nat) ^ 4 = 268435456 by decide] at hacc hsum
        have hor : bits .or .u64 (acc : Int) ((y : Int) * 268435456) = (x : Int) := by
          rw [u64_orv28 _ _ (by omega) (by omega) (by omega) (by omega) (by omega)]
          omega
        go_wp2
        go_ret2
        rw [HL.out, hone]
        exact ⟨rfl, rfl⟩
    · rw [if_neg hy] at hc
      rcases hks with rfl | rfl | rfl | rfl | rfl
      · simp only [show (128 : Nat) ^ 0 = 1 by decide] at hacc hsum
        obtain rfl : acc = 0 := by omega
        have hc0 : w.cell? ⟨g, o, none⟩ = some (.int .u8 ((y % 128 + 128 : Nat) : Int)) := hc
        have hv : bits .or .u64 0 (IntKind.u64.wrap (IntKind.u64.wrap (bits .and .u8 ((y : Int) % 128 + 128) 127))) = ((y % 128 : Nat) : Int) := by
          simp (disch := omega) only [u8_and127, u64_wrap_id, u64_orv0]
          omega
        go_wp2
        refine ⟨⟨1, y % 128, y / 128, pre ++ [(y % 128 + 128).toUInt8], rfl, rfl, congrArg (Value.int IntKind.u64) (by omega), by omega, ?_, ?_, .inr (by omega), ?_, by simp [hpre]⟩, by simp [intOf]⟩
        · rw [show (128 : Nat) ^ 1 = 128 by decide]; omega
        · rw [show (128 : Nat) ^ 1 = 128 by decide]; omega
        · rw [HS.out, Lib.uvarint_big (by omega)]; simp
      · simp only [show (128 : Nat) ^ 1 = 128 by decide] at hacc hsum
        have hv : bits .or .u64 (acc : Int) (IntKind.u64.wrap (IntKind.u64.wrap (bits .and .u8 ((y : Int) % 128 + 128) 127) * 128)) = ((acc + y % 128 * 128 : Nat) : Int) := by
          simp (disch := omega) only [u8_and127, u64_wrap_id, u64_orv7]
          omega
        go_wp2
        refine ⟨⟨2, acc + y % 128 * 128, y / 128, pre ++ [(y % 128 + 128).toUInt8], rfl, rfl, congrArg (Value.int IntKind.u64) (by omega), by omega, ?_, ?_, .inr (by omega), ?_, by simp [hpre]⟩, by simp [intOf]⟩
        · rw [show (128 : Nat) ^ 2 = 16384 by decide]; omega
        · rw [show (128 : Nat) ^ 2 = 16384 by decide]; omega
        · rw [HS.out, Lib.uvarint_big (by omega)]; simp
      · simp only [show (128 : Nat) ^ 2 = 16384 by decide] at hacc hsum
        have hv : bits .or .u64 (acc : Int) (IntKind.u64.wrap (IntKind.u64.wrap (bits .and .u8 ((y : Int) % 128 + 128) 127) * 16384)) = ((acc + y % 128 * 16384 : Nat) : Int) := by
          simp (disch := omega) only [u8_and127, u64_wrap_id, u64_orv14]
          omega
        go_wp2
        refine ⟨⟨3, acc + y % 128 * 16384, y / 128, pre ++ [(y % 128 + 128).toUInt8], rfl, rfl, congrArg (Value.int IntKind.u64) (by omega), by omega, ?_, ?_, .inr (by omega), ?_, by simp [hpre]⟩, by simp [intOf]⟩
        · rw [show (128 : Nat) ^ 3 = 2097152 by decide]; omega
        · rw [show (128 : Nat) ^ 3 = 2097152 by decide]; omega
        · rw [HS.out, Lib.uvarint_big (by omega)]; simp
      · simp only [show (128 : Nat) ^ 3 = 2097152 by decide] at hacc hsum
        have hv : bits .or .u64 (acc : Int) (IntKind.u64.wrap (IntKind.u64.wrap (bits .and .u8 ((y : Int) % 128 + 128) 127) * 2097152)) = ((acc + y % 128 * 2097152 : Nat) : Int) := by
          simp (disch := omega) only [u8_and127, u64_wrap_id, u64_orv21]
          omega
        go_wp2
        refine ⟨⟨4, acc + y % 128 * 2097152, y / 128, pre ++ [(y % 128 + 128).toUInt8], rfl, rfl, congrArg (Value.int IntKind.u64) (by omega), by omega, ?_, ?_, .inr (by omega), ?_, by simp [hpre]⟩, by simp [intOf]⟩
        · rw [show (128 : Nat) ^ 4 = 268435456 by decide]; omega
        · rw [show (128 : Nat) ^ 4 = 268435456 by decide]; omega
        · rw [HS.out, Lib.uvarint_big (by omega)]; simp
      · exfalso
        simp only [show (128 : Nat) ^ 4 = 268435456 by decide] at hsum
        omega
end Go.Proofs.YbulkcqwcFmt

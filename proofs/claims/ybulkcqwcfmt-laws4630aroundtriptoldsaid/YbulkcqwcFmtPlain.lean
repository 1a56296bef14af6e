/-
  PLAIN: numbers as sums of powers of two at ascending places; lowest bit, highest bit, how many bits. No Go in sight.
-/
import Derived.Lib.TrailingZeros
import Derived.Lib.BitFns
import Derived.Laws.BitsAllLaws
namespace Go.Proofs.YbulkcqwcFmt
open Go

/-- The number whose bits stand at the places ps. -/
def val : List Nat → Nat
  | [] => 0
  | p :: ps => 2 ^ p + val ps

def Asc (ps : List Nat) : Prop := ps.Pairwise (· < ·)

theorem val_append : ∀ (a b : List Nat), val (a ++ b) = val a + val b
  | [], b => by simp [val]
  | p :: a, b => by simp only [List.cons_append, val, val_append a b]; omega

theorem val_dvd (m : Nat) : ∀ (ps : List Nat), (∀ q ∈ ps, m ≤ q) → ∃ t, val ps = 2 ^ m * t
  | [], _ => ⟨0, by simp [val]⟩
  | p :: ps, h => by
    obtain ⟨t, ht⟩ := val_dvd m ps (fun q hq => h q (List.mem_cons_of_mem _ hq))
    have hp := h p (List.mem_cons_self)
    refine ⟨2 ^ (p - m) + t, ?_⟩
    have e : 2 ^ p = 2 ^ m * 2 ^ (p - m) := by rw [← Nat.pow_add]; congr 1; omega
    rw [val, ht, e, Nat.mul_add]

theorem Asc.tail {p : Nat} {ps : List Nat} (h : Asc (p :: ps)) : Asc ps := (List.pairwise_cons.1 h).2
theorem Asc.head_lt {p : Nat} {ps : List Nat} (h : Asc (p :: ps)) : ∀ q ∈ ps, p < q := (List.pairwise_cons.1 h).1

/-- The lowest place, taken out. -/
theorem val_cons {p : Nat} {ps : List Nat} (h : Asc (p :: ps)) : ∃ t, val (p :: ps) = 2 ^ p * (2 * t + 1) ∧ val ps = 2 ^ (p + 1) * t := by
  obtain ⟨t, ht⟩ := val_dvd (p + 1) ps (fun q hq => h.head_lt q hq)
  refine ⟨t, ?_, ht⟩
  rw [val, ht, Nat.pow_succ, Nat.mul_add, Nat.mul_one, Nat.mul_assoc]
  omega

theorem Asc.snoc {ps : List Nat} {p : Nat} (h : Asc ps) (hp : ∀ q ∈ ps, q < p) : Asc (ps ++ [p]) :=
  List.pairwise_append.2 ⟨h, List.pairwise_singleton _ _, fun a ha b hb => by simp at hb; subst hb; exact hp a ha⟩
theorem Asc.init {ps : List Nat} {p : Nat} (h : Asc (ps ++ [p])) : Asc ps := (List.pairwise_append.1 h).1
theorem Asc.last_gt {ps : List Nat} {p : Nat} (h : Asc (ps ++ [p])) : ∀ q ∈ ps, q < p := fun q hq => (List.pairwise_append.1 h).2.2 q hq p (by simp)

theorem val_lt : ∀ (k : Nat) (ps : List Nat) (m : Nat), ps.length = k → Asc ps → (∀ q ∈ ps, q < m) → val ps < 2 ^ m
  | 0, ps, m, hl, _, _ => by
    have : ps = [] := List.eq_nil_of_length_eq_zero hl
    subst this
    exact Nat.pos_of_ne_zero (by simp)
  | k + 1, ps, m, hl, h, hm => by
    rcases List.eq_nil_or_concat ps with rfl | ⟨L, b, rfl⟩
    · simp at hl
    · rw [List.concat_eq_append] at *
      have hL : L.length = k := by simp at hl; omega
      have hv := val_lt k L b hL h.init h.last_gt
      have hb : b < m := hm b (by simp)
      have hp : 2 ^ (b + 1) ≤ 2 ^ m := Nat.pow_le_pow_right (by decide) hb
      rw [val_append]
      simp only [val]
      rw [Nat.pow_succ] at hp
      omega

theorem val_lt64 {ps : List Nat} (h : Asc ps) (hm : ∀ q ∈ ps, q < 64) : val ps < 18446744073709551616 := val_lt _ ps 64 rfl h hm
theorem val_lt8 {ps : List Nat} (h : Asc ps) (hm : ∀ q ∈ ps, q < 8) : val ps < 256 := val_lt _ ps 8 rfl h hm
theorem val_pos {p : Nat} {ps : List Nat} : 0 < val (p :: ps) := by
  have : 0 < 2 ^ p := Nat.pos_of_ne_zero (by simp)
  simp only [val]; omega

/-- One place more, above all. -/
theorem val_or {ps : List Nat} {p : Nat} (h : Asc ps) (hp : ∀ q ∈ ps, q < p) : val ps ||| 2 ^ p = val (ps ++ [p]) := by
  have hv := val_lt _ ps p rfl h hp
  rw [Nat.or_comm, nat_join p (2 ^ p) (val ps) (by simp) hv, val_append]
  simp only [val]; omega

theorem pow_odd_inj {a b m n : Nat} (h : 2 ^ a * (2 * m + 1) = 2 ^ b * (2 * n + 1)) : a = b := by
  have go : ∀ {a b m n : Nat}, a < b → 2 ^ a * (2 * m + 1) = 2 ^ b * (2 * n + 1) → False := by
    intro a b m n hab h
    have e : 2 ^ b = 2 ^ a * (2 * 2 ^ (b - a - 1)) := by
      rw [← Nat.pow_succ', ← Nat.pow_add]; congr 1; omega
    rw [e, Nat.mul_assoc] at h
    have h2 := Nat.eq_of_mul_eq_mul_left (Nat.pos_of_ne_zero (by simp)) h
    have h3 : (2 * m + 1) % 2 = (2 * 2 ^ (b - a - 1) * (2 * n + 1)) % 2 := by rw [h2]
    rw [Nat.mul_assoc, Nat.mul_mod_right] at h3
    omega
  rcases Nat.lt_trichotomy a b with hlt | rfl | hgt
  · exact (go hlt h).elim
  · rfl
  · exact (go hgt h.symm).elim

theorem ctz_val {n p : Nat} {ps : List Nat} (h : Asc (p :: ps)) (hn : val (p :: ps) < 2 ^ n) : Lib.ctz n (val (p :: ps)) = p := by
  obtain ⟨t, ht, _⟩ := val_cons h
  have hpos := val_pos (p := p) (ps := ps)
  obtain ⟨m, hm, _⟩ := Lib.ctzFrom_spec n _ hpos hn
  have e : Lib.ctz n (val (p :: ps)) = Lib.ctzFrom n (val (p :: ps)) := by
    unfold Lib.ctz
    rw [if_neg (by omega)]
  rw [e]
  exact pow_odd_inj (hm.symm.trans ht)

/-- x and x - 1: the lowest bit is gone. -/
theorem and_pred (p t : Nat) : (2 ^ p * (2 * t + 1)) &&& (2 ^ p * (2 * t + 1) - 1) = 2 ^ (p + 1) * t := by
  have e1 : 2 ^ p * (2 * t + 1) = 2 ^ (p + 1) * t + 2 ^ p := by rw [Nat.mul_add, Nat.mul_one, Nat.pow_succ, Nat.mul_assoc]
  have hpos : 0 < 2 ^ p := Nat.pos_of_ne_zero (by simp)
  have e2 : 2 ^ p * (2 * t + 1) - 1 = 2 ^ (p + 1) * t + (2 ^ p - 1) := by omega
  have l1 : 2 ^ p < 2 ^ (p + 1) := Nat.pow_lt_pow_right (by decide) (by omega)
  rw [e2, e1]
  apply Nat.eq_of_testBit_eq
  intro j
  rw [Nat.testBit_and, Nat.testBit_two_pow_mul_add _ l1, Nat.testBit_two_pow_mul_add _ (by omega)]
  have e3 : 2 ^ (p + 1) * t = 2 ^ (p + 1) * t + 0 := rfl
  rw [e3, Nat.testBit_two_pow_mul_add _ (by omega)]
  by_cases hj : j < p + 1
  · simp only [hj, if_true, Nat.zero_testBit]
    rw [Nat.testBit_two_pow]
    by_cases hp : p = j
    · subst hp
      have : (2 ^ p - 1).testBit p = false := by rw [Nat.testBit_two_pow_sub_one]; simp
      simp [this]
    · simp [hp]
  · simp [hj]

theorem val_and_pred {p : Nat} {ps : List Nat} (h : Asc (p :: ps)) : val (p :: ps) &&& (val (p :: ps) - 1) = val ps := by
  obtain ⟨t, ht, ht2⟩ := val_cons h
  rw [ht, ht2, and_pred]

/-- The highest place. -/
theorem bitLen_val {ps : List Nat} {p : Nat} (h : Asc (ps ++ [p])) (hp : p < 64) : Lib.bitLen (val (ps ++ [p])) = p + 1 := by
  have hv := val_lt _ ps p rfl h.init h.last_gt
  have e : val (ps ++ [p]) = val ps + 2 ^ p := by rw [val_append]; simp [val]
  have hle : 2 ^ p ≤ val (ps ++ [p]) := by omega
  have hlt : val (ps ++ [p]) < 2 ^ 64 := by
    have : 2 ^ (p + 1) ≤ 2 ^ 64 := Nat.pow_le_pow_right (by decide) hp
    rw [Nat.pow_succ] at this
    omega
  rw [Lib.bitLen_shift p _ hle hlt]
  have e2 : val (ps ++ [p]) / 2 ^ p = 1 := by
    rw [e]
    rw [Nat.add_div_right _ (Nat.pos_of_ne_zero (by simp)), Nat.div_eq_of_lt hv]
  rw [e2]
  rfl

/-! ### how many bits -/
/-- Bits, one by one. -/
def pcAux : Nat → Nat → Nat
  | 0, _ => 0
  | f + 1, x => x % 2 + pcAux f (x / 2)

theorem pcAux_zero : ∀ f, pcAux f 0 = 0
  | 0 => rfl
  | f + 1 => by simp [pcAux, pcAux_zero f]
theorem pcAux_mul (m : Nat) : ∀ (f t : Nat), pcAux (m + f) (2 ^ m * t) = pcAux f t := by
  induction m with
  | zero => intro f t; simp
  | succ m ih =>
    intro f t
    have e : m + 1 + f = (m + f) + 1 := by omega
    have e1 : 2 ^ (m + 1) * t = 2 * (2 ^ m * t) := by rw [Nat.pow_succ]; simp [Nat.mul_comm, Nat.mul_left_comm]
    rw [e, pcAux, e1]
    rw [Nat.mul_mod_right, Nat.mul_div_cancel_left _ (by decide), ih]
    omega
theorem pc_val : ∀ (ps : List Nat) (f : Nat), Asc ps → (∀ q ∈ ps, q < f) → pcAux f (val ps) = ps.length
  | [], f, _, _ => by simp [val, pcAux_zero]
  | p :: ps, f, h, hf => by
    obtain ⟨t, ht, ht2⟩ := val_cons h
    have hp := hf p (by simp)
    obtain ⟨d, rfl⟩ : ∃ d, f = p + (d + 1) := ⟨f - p - 1, by omega⟩
    have ih := pc_val ps (p + (d + 1)) h.tail (fun q hq => hf q (List.mem_cons_of_mem _ hq))
    rw [ht, pcAux_mul, pcAux]
    rw [ht2] at ih
    have e : p + (d + 1) = (p + 1) + d := by omega
    rw [e, pcAux_mul] at ih
    have e2 : (2 * t + 1) % 2 = 1 := by omega
    have e3 : (2 * t + 1) / 2 = t := by omega
    rw [e2, e3, ih]
    simp; omega

end Go.Proofs.YbulkcqwcFmt

/-
  PLAIN: words of a bitmap as (index, ascending places), and what adding a greater counter does.
-/
import Derived.Test.YbulkcqwcFmtPlain
namespace Go.Proofs.YbulkcqwcFmt
set_option linter.unusedVariables false
open Go

abbrev Word := Nat × List Nat

def listed (ws : List Word) : List Nat := ws.flatMap fun w => w.2.map fun p => w.1 * 64 + p + 1

/-- A word in normal form: some place, ascending, below 64. -/
def Nice (w : Word) : Prop := w.2 ≠ [] ∧ Asc w.2 ∧ (∀ q ∈ w.2, q < 64) ∧ w.1 < 72057594037927936

def addC (ws : List Word) (n : Nat) : List Word :=
  match ws.getLast? with
  | none => [((n - 1) / 64, [(n - 1) % 64])]
  | some (i, ps) => if i = (n - 1) / 64 then ws.dropLast ++ [(i, ps ++ [(n - 1) % 64])] else ws ++ [((n - 1) / 64, [(n - 1) % 64])]

structure Good (ws : List Word) (cs : List Nat) : Prop where
  nice : ∀ w ∈ ws, Nice w
  eq : listed ws = cs

theorem listed_append (a b : List Word) : listed (a ++ b) = listed a ++ listed b := by simp [listed, List.flatMap_append]
theorem listed_one (w : Word) : listed [w] = w.2.map fun p => w.1 * 64 + p + 1 := by simp [listed]

theorem addC_nil (n : Nat) : addC [] n = [((n - 1) / 64, [(n - 1) % 64])] := rfl
theorem addC_same (ws : List Word) (i : Nat) (ps : List Nat) (n : Nat) (h : i = (n - 1) / 64) : addC (ws ++ [(i, ps)]) n = ws ++ [(i, ps ++ [(n - 1) % 64])] := by
  simp [addC, h]
theorem addC_other (ws : List Word) (i : Nat) (ps : List Nat) (n : Nat) (h : i ≠ (n - 1) / 64) : addC (ws ++ [(i, ps)]) n = ws ++ [(i, ps)] ++ [((n - 1) / 64, [(n - 1) % 64])] := by
  simp [addC, h]

theorem Good.nil : Good [] [] := ⟨by simp, rfl⟩

theorem nice_one (n : Nat) (h : 1 ≤ n) (hn : n < 4611686018427387904) : Nice ((n - 1) / 64, [(n - 1) % 64]) :=
  ⟨by simp, List.pairwise_singleton _ _, by simp; omega, by simp; omega⟩

theorem listed_new (n : Nat) (h : 1 ≤ n) : listed [((n - 1) / 64, [(n - 1) % 64])] = [n] := by
  rw [listed_one]; simp; omega

theorem Good.step {ws : List Word} {cs : List Nat} (g : Good ws cs) (n : Nat) (h1 : 1 ≤ n) (hn : n < 4611686018427387904) (hgt : ∀ c ∈ cs, c < n) : Good (addC ws n) (cs ++ [n]) := by
  rcases List.eq_nil_or_concat ws with rfl | ⟨init, ⟨i, ps⟩, rfl⟩
  · have : cs = [] := g.eq.symm
    subst this
    rw [addC_nil]
    exact ⟨by simp; exact nice_one n h1 hn, by rw [listed_new n h1]; rfl⟩
  · rw [List.concat_eq_append] at g ⊢
    obtain ⟨hne, hasc, h64, hi⟩ := g.nice (i, ps) (by simp)
    have heq := g.eq
    rw [listed_append, listed_one] at heq
    by_cases hi' : i = (n - 1) / 64
    · rw [addC_same _ _ _ _ hi']
      have hlt : ∀ q ∈ ps, q < (n - 1) % 64 := by
        intro q hq
        have := hgt (i * 64 + q + 1) (by rw [← heq]; exact List.mem_append_right _ (List.mem_map.2 ⟨q, hq, rfl⟩))
        have := h64 q hq
        omega
      refine ⟨?_, ?_⟩
      · intro w hw
        rcases List.mem_append.1 hw with hw | hw
        · exact g.nice w (List.mem_append_left _ hw)
        · simp at hw
          subst hw
          refine ⟨by simp, hasc.snoc hlt, ?_, hi⟩
          intro q hq
          rcases List.mem_append.1 hq with hq | hq
          · exact h64 q hq
          · simp at hq; omega
      · rw [listed_append, listed_one, ← heq]
        simp only [List.map_append, List.map_cons, List.map_nil, List.append_assoc]
        congr 3
        omega
    · rw [addC_other _ _ _ _ hi']
      refine ⟨?_, ?_⟩
      · intro w hw
        rcases List.mem_append.1 hw with hw | hw
        · exact g.nice w hw
        · simp at hw
          subst hw
          exact nice_one n h1 hn
      · rw [listed_append, g.eq, listed_new n h1]

theorem addC_length (ws : List Word) (n : Nat) : (addC ws n).length ≤ ws.length + 1 := by
  rcases List.eq_nil_or_concat ws with rfl | ⟨init, ⟨i, ps⟩, rfl⟩
  · simp [addC_nil]
  · rw [List.concat_eq_append]
    by_cases h : i = (n - 1) / 64
    · rw [addC_same _ _ _ _ h]; simp
    · rw [addC_other _ _ _ _ h]; simp

theorem Good.len {ws : List Word} {cs : List Nat} (g : Good ws cs) : ws.length ≤ cs.length := by
  obtain ⟨gn, ge⟩ := g
  induction ws generalizing cs with
  | nil => simp
  | cons w ws ih =>
    have := ih (fun x hx => gn x (List.mem_cons_of_mem _ hx)) rfl
    rw [← ge, show w :: ws = [w] ++ ws from rfl, listed_append, listed_one]
    have h0 := List.length_pos_iff.2 (gn w (by simp)).1
    simp; omega

/-- How many counters: the places of all words. -/
theorem Good.sum {ws : List Word} {cs : List Nat} (g : Good ws cs) : (ws.map fun w => w.2.length).sum = cs.length := by
  rw [← g.eq, listed, List.length_flatMap]
  simp

theorem Good.last {init : List Word} {i : Nat} {ps : List Nat} {p : Nat} {cs : List Nat} (g : Good (init ++ [(i, ps ++ [p])]) cs) : cs.getLast? = some (i * 64 + p + 1) := by
  rw [← g.eq, listed_append, listed_one]
  simp

theorem nice_snoc {w : Word} (h : Nice w) : ∃ ps p, w.2 = ps ++ [p] := by
  rcases List.eq_nil_or_concat w.2 with e | ⟨ps, p, e⟩
  · exact absurd e h.1
  · exact ⟨ps, p, by rw [e, List.concat_eq_append]⟩
theorem nice_cons {w : Word} (h : Nice w) : ∃ p ps, w.2 = p :: ps := by
  cases e : w.2 with
  | nil => exact absurd e h.1
  | cons p ps => exact ⟨p, ps, rfl⟩

/-- The first word's first counter is the first of all. -/
theorem Good.first {i : Nat} {p : Nat} {ps : List Nat} {rest : List Word} {cs : List Nat} (g : Good ((i, p :: ps) :: rest) cs) : i * 64 + p + 1 ∈ cs := by
  rw [← g.eq, show (i, p :: ps) :: rest = [(i, p :: ps)] ++ rest from rfl, listed_append, listed_one]
  simp

/-- Shifted down below its lowest place, a value is even. -/
theorem val_shift_even (s : Nat) (ps : List Nat) (h : ∀ q ∈ ps, s < q) : val ps / 2 ^ s % 2 = 0 := by
  obtain ⟨t, ht⟩ := val_dvd (s + 1) ps (fun q hq => h q hq)
  rw [ht, Nat.pow_succ, Nat.mul_assoc, Nat.mul_div_cancel_left _ (Nat.pos_of_ne_zero (by simp))]
  omega

theorem val_low_zero (s : Nat) (ps : List Nat) (h : ∀ q ∈ ps, s < q) : val ps &&& (2 ^ s - 1) = 0 := by
  obtain ⟨t, ht⟩ := val_dvd s ps (fun q hq => Nat.le_of_lt (h q hq))
  rw [Nat.and_two_pow_sub_one_eq_mod, ht]
  simp

/-- The trailing zeros of an odd number. -/
theorem ctz_odd (x : Nat) (hx : x < 18446744073709551616) (ho : x % 2 = 1) : Lib.ctz 64 x = 0 := by
  obtain ⟨m, hm, _⟩ := Lib.ctzFrom_spec 64 x (by omega) hx
  have h1 : x = 2 ^ 0 * (2 * (x / 2) + 1) := by simp; omega
  have e : Lib.ctz 64 x = Lib.ctzFrom 64 x := by
    unfold Lib.ctz
    rw [if_neg (by omega)]
  rw [e]
  exact pow_odd_inj (hm.symm.trans h1)
end Go.Proofs.YbulkcqwcFmt

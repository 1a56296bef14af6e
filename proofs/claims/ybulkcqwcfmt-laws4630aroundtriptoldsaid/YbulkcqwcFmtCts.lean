/-
  PLAIN: the counters that gaps spell.
-/
import Derived.Test.YbulkcqwcFmtGood
namespace Go.Proofs.YbulkcqwcFmt
set_option linter.unusedVariables false
open Go

def cts (p : Nat) : List Nat → List Nat
  | [] => []
  | g :: gs => (p + g + 1) :: cts (p + g + 1) gs

def endc (p : Nat) : List Nat → Nat
  | [] => p
  | g :: gs => endc (p + g + 1) gs

theorem cts_snoc (g : Nat) : ∀ (a : List Nat) (p : Nat), cts p (a ++ [g]) = cts p a ++ [endc p a + g + 1]
  | [], p => rfl
  | x :: a, p => by simp [cts, endc, cts_snoc g a]
theorem endc_snoc (g : Nat) : ∀ (a : List Nat) (p : Nat), endc p (a ++ [g]) = endc p a + g + 1
  | [], p => rfl
  | x :: a, p => by simp [endc, endc_snoc g a]
theorem cts_length : ∀ (a : List Nat) (p : Nat), (cts p a).length = a.length
  | [], p => rfl
  | x :: a, p => by simp [cts, cts_length a]
theorem endc_ge : ∀ (a : List Nat) (p : Nat), p + a.length ≤ endc p a
  | [], p => by simp [endc]
  | x :: a, p => by have := endc_ge a (p + x + 1); simp [endc]; omega
theorem endc_le : ∀ (a : List Nat) (p : Nat), (∀ g ∈ a, g < 256) → endc p a ≤ p + 256 * a.length
  | [], p, _ => by simp [endc]
  | x :: a, p, h => by
    have := endc_le a (p + x + 1) (fun g hg => h g (List.mem_cons_of_mem _ hg))
    have := h x (by simp)
    simp [endc]; omega
theorem cts_mem : ∀ (a : List Nat) (p c : Nat), c ∈ cts p a → p < c ∧ c ≤ endc p a
  | [], p, c, h => by simp [cts] at h
  | x :: a, p, c, h => by
    simp only [cts, List.mem_cons] at h
    rcases h with rfl | h
    · have := endc_ge a (p + x + 1); simp only [endc]; omega
    · have := cts_mem a (p + x + 1) c h; simp only [endc]; omega
theorem cts_last : ∀ (a : List Nat) (p : Nat), a ≠ [] → (cts p a).getLast? = some (endc p a) := by
  intro a p h
  rcases List.eq_nil_or_concat a with e | ⟨i, g, e⟩
  · exact absurd e h
  · rw [e, List.concat_eq_append, cts_snoc, endc_snoc]; simp
theorem cts_asc : ∀ (a : List Nat) (p : Nat), (cts p a).Pairwise (· < ·)
  | [], p => List.Pairwise.nil
  | x :: a, p => List.pairwise_cons.2 ⟨fun c hc => (cts_mem a _ c hc).1, cts_asc a _⟩
end Go.Proofs.YbulkcqwcFmt

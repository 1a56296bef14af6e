/-
  PLAIN: a bitmap's bytes out of ascending offsets, and back.
-/
import Derived.Test.YbulkcqwcFmtCts
namespace Go.Proofs.YbulkcqwcFmt
set_option linter.unusedVariables false
open Go

/-- The places in byte j. -/
def plc (O : List Nat) (j : Nat) : List Nat := (O.filter fun o => o / 8 == j).map fun o => o % 8
def bmb (O : List Nat) (nb : Nat) : List UInt8 := (List.range nb).map fun j => (val (plc O j)).toUInt8

theorem plc_snoc (O : List Nat) (o j : Nat) : plc (O ++ [o]) j = if o / 8 = j then plc O j ++ [o % 8] else plc O j := by
  unfold plc
  rw [List.filter_append, List.map_append]
  by_cases h : o / 8 = j <;> simp [h]

theorem plc_asc (O : List Nat) (j : Nat) (h : Asc O) : Asc (plc O j) := by
  unfold plc Asc
  rw [List.pairwise_map]
  refine ((List.Pairwise.filter _ h).imp_of_mem ?_)
  intro a b ha hb hab
  simp only [List.mem_filter, beq_iff_eq] at ha hb
  omega

theorem plc_lt (O : List Nat) (j : Nat) : ∀ q ∈ plc O j, q < 8 := by
  intro q hq
  unfold plc at hq
  simp only [List.mem_map] at hq
  obtain ⟨o, _, rfl⟩ := hq
  omega

theorem plc_gt {O : List Nat} {o : Nat} (h : ∀ x ∈ O, x < o) : ∀ q ∈ plc O (o / 8), q < o % 8 := by
  intro q hq
  unfold plc at hq
  simp only [List.mem_map, List.mem_filter, beq_iff_eq] at hq
  obtain ⟨x, ⟨hx, he⟩, rfl⟩ := hq
  have := h x hx
  omega

theorem filter_step : ∀ (O : List Nat) (k : Nat), Asc O → O.filter (fun o => decide (o / 8 < k + 1)) = O.filter (fun o => decide (o / 8 < k)) ++ O.filter (fun o => o / 8 == k)
  | [], k, _ => rfl
  | o :: O, k, h => by
    have ih := filter_step O k h.tail
    by_cases h1 : o / 8 < k
    · rw [List.filter_cons_of_pos (by simp; omega), List.filter_cons_of_pos (by simpa using h1), List.filter_cons_of_neg (by simp; omega), ih]; rfl
    · have hnone : O.filter (fun o => decide (o / 8 < k)) = [] := by
        rw [List.filter_eq_nil_iff]
        intro x hx
        have := h.head_lt x hx
        simp; omega
      rw [hnone, List.nil_append] at ih
      by_cases h2 : o / 8 = k
      · rw [List.filter_cons_of_pos (by simp; omega), List.filter_cons_of_neg (by simpa using h1), List.filter_cons_of_pos (by simpa using h2), hnone, ih]; rfl
      · rw [List.filter_cons_of_neg (by simp; omega), List.filter_cons_of_neg (by simpa using h1), List.filter_cons_of_neg (by simpa using h2), hnone, ih]; rfl

/-- The bytes in turn give the offsets back. -/
def offs (O : List Nat) (k : Nat) : List Nat := (List.range k).flatMap fun j => (plc O j).map fun p => 8 * j + p
theorem offs_eq (O : List Nat) (h : Asc O) : ∀ k, offs O k = O.filter (fun o => decide (o / 8 < k))
  | 0 => by simp [offs]
  | k + 1 => by
    have ih := offs_eq O h k
    rw [filter_step O k h, ← ih]
    unfold offs
    rw [List.range_succ, List.flatMap_append]
    congr 1
    simp only [List.flatMap_cons, List.flatMap_nil, List.append_nil]
    unfold plc
    rw [List.map_map]
    conv => rhs; rw [← List.map_id (O.filter _)]
    apply List.map_congr_left
    intro o ho
    simp only [List.mem_filter, beq_iff_eq] at ho
    simp only [Function.comp, id]
    omega
theorem offs_all (O : List Nat) (h : Asc O) (k : Nat) (hk : ∀ o ∈ O, o / 8 < k) : offs O k = O := by
  rw [offs_eq O h k, List.filter_eq_self]
  intro o ho
  simpa using hk o ho
theorem offs_succ (O : List Nat) (k : Nat) : offs O (k + 1) = offs O k ++ (plc O k).map fun p => 8 * k + p := by
  unfold offs
  rw [List.range_succ, List.flatMap_append]
  simp
end Go.Proofs.YbulkcqwcFmt

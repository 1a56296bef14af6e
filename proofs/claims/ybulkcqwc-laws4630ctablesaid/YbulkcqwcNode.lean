/-
  The contract of (*encoder[int]).node with no table.
-/
import Derived.Test.YbulkcqwcCalls
import Derived.Outline
namespace Go.Proofs.Ybulkcqwc
open Go Go.RowKit
set_option linter.unusedVariables false

/-- The struct that e points to: a whole block. -/
def encObj (v t : Value) : Obj := .cells #[v, .nilFunc, .nilIface, t] 30 (0, 0)

theorem enc_cells {w : World} {E : Nat} {v t : Value} (h : w.heap[E]? = some (encObj v t)) :
    w.cell? ⟨E, 0, none⟩ = some v ∧ w.cell? ⟨E, 2, none⟩ = some .nilIface ∧ w.cell? ⟨E, 3, none⟩ = some t ∧ w.frozen? ⟨E, 0, none⟩ = false := by
  simp [World.cell?, World.frozen?, h, encObj]

theorem enc_set {w : World} {E : Nat} {v u t : Value} (h : w.heap[E]? = some (encObj v t)) : (w.setCell ⟨E, 0, none⟩ u).heap[E]? = some (encObj u t) := by
  have hlt := lt_of_block h
  have h' : w.heap[E] = encObj v t := by simpa [Array.getElem?_eq_getElem hlt] using h
  show (w.heap.modify E _)[E]? = _
  rw [Array.getElem?_eq_getElem (by simpa using hlt), Array.getElem_modify_self, h']
  rfl

/-- An owned row of bytes is not the struct's block. -/
theorem owns_ne {w : World} {B E n : Nat} {v u t : Value} {xs : List Value} (ho : w.ownsRow B 5 1 u n xs) (h : w.heap[E]? = some (encObj v t)) : u.ownBlock ≠ some E := by
  intro e
  rcases ho.2 with ⟨rfl, _⟩ | ⟨g, cap, cur, rfl, _, hh, _⟩
  · simp [Value.ownBlock] at e
  · simp [Value.ownBlock] at e
    subst e
    rw [hh] at h
    simp [encObj] at h

theorem eql28 : ∀ (w : World) (r : Option Nat), (binOp .eql 28 (.map r) (.map none)).run Yba.prog w = .ok (.bool r.isNone) w := fun w r => run_eql_map_nil w _ _ _ r Yba.underlying28

set_option maxHeartbeats 1000000 in
set_option maxRecDepth 100000 in
theorem node_plain (B n E : Nat) (s : ByteArray) (hs : s.size ≤ 1048576) (v : Value) (xs : List Value) (w : World) (hE : w.heap[E]? = some (encObj v (.map none))) (hown : w.ownsRow B 5 1 v n xs) (hBw : B ≤ w.heap.size) (hlim : n ≤ 10000000) :
    Calls Yba.prog 6 #[.pointer (some ⟨E, 0, none⟩), .string s] w fun e w' => e = .returned (.tuple #[]) ∧ ∃ v', w'.heap[E]? = some (encObj v' (.map none)) ∧
      w'.ownsRow B 5 1 v' (n + (Lib.uvarint s.size).length + s.size) (xs ++ (Lib.byteCells (Lib.uvarint s.size) ++ Go.byteCells s)) ∧ Kept w w' (fun k => k = E ∨ v.ownBlock = some k) ∧ Lies w v v' := by
  have q28 := eql28
  obtain ⟨c0, c2, c3, f0⟩ := enc_cells hE
  go_enter Yba.func6, Yba.ntmps6
  go_wp2_with fail
  refine (appendBytes_any B n s hs v xs _ hown hBw hlim).mono ?_
  rintro e w1 ⟨v1, rfl, hown1, hk1, hl1⟩
  have hlt := lt_of_block hE
  have hE1 : w1.heap[E]? = some (encObj v (.map none)) := (hk1.block E hlt (owns_ne hown hE)).trans hE
  obtain ⟨d0, d2, d3, g0⟩ := enc_cells hE1
  have hE2 := enc_set (u := v1) hE1
  have hown2 := ownsRow_setCell_other hown1 (a := ⟨E, 0, none⟩) (owns_ne hown1 hE1) v1
  have hk2 : Kept w (w1.setCell ⟨E, 0, none⟩ v1) (fun k => k = E ∨ v.ownBlock = some k) :=
    ((Kept.refl w _).trans hk1 (fun i _ h => .inr h)).trans (Kept.setCell w1 ⟨E, 0, none⟩ v1) (fun i _ h => .inl h)
  have HE : Hid ((w1.setCell ⟨E, 0, none⟩ v1).heap[E]? = some (encObj v1 (.map none))) := hE2
  have HV : ∃ a n c, v1 = .slice a n c := by
    rcases hown1.2 with ⟨rfl, _⟩ | ⟨g, cap, cur, rfl, _⟩
    · exact ⟨_, _, _, rfl⟩
    · exact ⟨_, _, _, rfl⟩
  clear hE2 hE1 hE hk1
  obtain ⟨a1, n1, cp1, hv1⟩ := HV
  subst hv1
  go_wp2
  (try simp only [Exit.inBlock, Exit.then]); refine bodyPost_ret (results_none rfl _ _ _) rfl ?_
  exact ⟨rfl, _, HE.out, hown2, hk2, hl1⟩
end Go.Proofs.Ybulkcqwc

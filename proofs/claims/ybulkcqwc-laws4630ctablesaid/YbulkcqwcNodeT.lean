/-
  The contract of (*encoder[int]).node with a table.
-/
import Derived.Test.YbulkcqwcNode
import Derived.Maps.OwnSet
import Derived.Maps.OwnOps
import Derived.Deep.RegionWith
namespace Go.Proofs.Ybulkcqwc
open Go Go.RowKit Go.Maps
set_option linter.unusedVariables false

theorem law9 : Keyed Yba.prog 9 := string_keyed Yba.underlying9
theorem zero33 (w : World) : (zeroValue 33).run Yba.prog w = .ok (.int .u64 0) w := by kernel_rfl

theorem owns_form {w : World} {B n : Nat} {v : Value} {xs : List Value} (h : w.ownsRow B 5 1 v n xs) : ∃ a c, v = .slice a n c := by
  rcases h.2 with ⟨rfl, rfl⟩ | ⟨g, cap, cur, rfl, _⟩
  · exact ⟨_, _, rfl⟩
  · exact ⟨_, _, rfl⟩

/-- AppendUvarint beside the struct's block, its answer's shape written out. -/
theorem uvarint_enc (B n x E : Nat) (t : Value) (hx : x < 18446744073709551616) (sv : Value) (xs : List Value) (w : World) (hown : w.ownsRow B 5 1 sv n xs) (hBw : B ≤ w.heap.size) (hlim : n + 10 ≤ 140737488355328)
    (hE : w.heap[E]? = some (encObj sv t)) :
    Calls Yba.prog 10 #[sv, .int .u64 x] w fun e w' => ∃ a c, e = .returned (.slice a (n + (Lib.uvarint x).length) c) ∧ Hid (w'.heap[E]? = some (encObj sv t)) ∧
      w'.ownsRow B 5 1 (.slice a (n + (Lib.uvarint x).length) c) (n + (Lib.uvarint x).length) (xs ++ Lib.byteCells (Lib.uvarint x)) ∧ Kept w w' (fun k => sv.ownBlock = some k) ∧ Lies w sv (.slice a (n + (Lib.uvarint x).length) c) := by
  refine (uvarint_any B n x hx sv xs w hown hBw hlim).mono ?_
  rintro e w1 ⟨v1, rfl, hown1, hk1, hl1⟩
  obtain ⟨a, c, rfl⟩ := owns_form hown1
  exact ⟨a, c, rfl, (hk1.block E (lt_of_block hE) (owns_ne hown hE)).trans hE, hown1, hk1, hl1⟩

theorem node_end {w w1 : World} {B E n : Nat} {v v1 t : Value} {xs : List Value} (hE1 : w1.heap[E]? = some (encObj v t)) (hown1 : w1.ownsRow B 5 1 v1 n xs) (hk1 : Kept w.drew w1 (fun k => v.ownBlock = some k)) (hl1 : Lies w.drew v v1) :
    (w1.setCell ⟨E, 0, none⟩ v1).heap[E]? = some (encObj v1 t) ∧ (w1.setCell ⟨E, 0, none⟩ v1).ownsRow B 5 1 v1 n xs ∧ Kept w (w1.setCell ⟨E, 0, none⟩ v1) (fun k => k = E ∨ v.ownBlock = some k) ∧ Lies w v v1 :=
  ⟨enc_set hE1, ownsRow_setCell_other hown1 (a := ⟨E, 0, none⟩) (owns_ne hown1 hE1) v1,
    ((Kept.drew w _).trans hk1 (fun i _ h => .inr h)).trans (Kept.setCell w1 ⟨E, 0, none⟩ v1) (fun i _ h => .inl h), hl1⟩

set_option maxHeartbeats 1000000 in
set_option maxRecDepth 100000 in
theorem node_table (B n E M m : Nat) (s : ByteArray) (hs : s.size ≤ 1048576) (v : Value) (xs : List Value) (w : World) (D : DataW Unit) (hE : w.heap[E]? = some (encObj v (.map (some M))))
    (hM : w.ownsMap Yba.prog 9 (plainElem Yba.prog 33) M m D) (hown : w.ownsRow B 5 1 v n xs) (hBw : B ≤ w.heap.size) (hlim : n ≤ 10000000)
    (c : Nat) (hc : c < 18446744073709551616) (hat : D.atKey (.string s.data.toList) (.lit (.int .u64 0)) = .lit (.int .u64 c)) :
    Calls Yba.prog 6 #[.pointer (some ⟨E, 0, none⟩), .string s] w fun e w' => e = .returned (.tuple #[]) ∧ ∃ v', w'.heap[E]? = some (encObj v' (.map (some M))) ∧
      w'.ownsRow B 5 1 v' (n + (Lib.uvarint c).length) (xs ++ Lib.byteCells (Lib.uvarint c)) ∧ Kept w w' (fun k => k = E ∨ v.ownBlock = some k) ∧ Lies w v v' := by
  have q28 := eql28
  obtain ⟨c0, c2, c3, f0⟩ := enc_cells hE
  have hlook : (Instr.lookup 28 (.map (some M)) (.string s) false).run Yba.prog w.drew = .ok (.int .u64 c) w.drew := by
    obtain ⟨c', hrun, hat', _⟩ := hM.drew.lookup_int law9 Yba.underlying28 Yba.underlying33 (zero33 _) (WideMaps.keyOf_string_mk Yba.underlying9 (s := s) (by unfold maxLen; omega))
    rw [hat] at hat'
    have : (c : Int) = c' := by simpa using hat'
    rw [this]; exact hrun
  have HE : Hid (w.heap[E]? = some (encObj v (.map (some M)))) := hE
  clear hat hM hE
  go_enter Yba.func6, Yba.ntmps6
  go_wp2_with fail
  go_region_with (go_at_call 10; refine (uvarint_enc B n c E (.map (some M)) hc v xs w.drew (by exact hown.drew) (by exact hBw) (by omega) (by exact HE.out)).mono ?_; rintro e w1 ⟨a1, p1, rfl, HE1, hown1, hk1, hl1⟩; obtain ⟨d0, d2, d3, g0⟩ := enc_cells HE1.out)
  all_goals
    have R := node_end HE1.out hown1 hk1 hl1
    clear HE1 hown1 hk1 hl1 d0 d2 d3 g0
    go_wp2
    go_end0
    exact ⟨rfl, _, R⟩
end Go.Proofs.Ybulkcqwc

/-
  The contracts of AppendUvarint and slices.Equal.
-/
import Derived.Test.YbulkcqwcFmtRows
import Derived.Test.YbulkcqwcFmtLaws
import Derived.WalkSpells
import Derived.Deep.QuietTactic
import Derived.BigQuiet
import Derived.Deep.LoopGhost
namespace Go.Proofs.YbulkcqwcFmt
open Go Go.RowKit
set_option linter.unusedVariables false

theorem Ybaf.info5 : (Ybaf.prog.info? 5).map (fun i => (i.zero, i.size, i.bytes)) = some (some (.int .u8 0), 1, 1) := by kernel_rfl

theorem step_frame {w wr w1 : World} {sv vb v' : Value} {o : Obj} (hk : Kept w wr (fun k => sv.ownBlock = some k)) (hl : Lies w sv vb) (hg : (wr.alloc o).grownBy w1 vb.ownBlock)
    (hat : v'.ownBlock = vb.ownBlock ∨ v'.ownBlock = some (wr.heap.size + 1)) : Kept w w1 (fun k => sv.ownBlock = some k) ∧ Lies w sv v' := by
  refine ⟨(hk.trans (Kept.alloc wr o (fun _ => False)) (fun _ _ h => h.elim)).trans (Kept.grown hg) (fun i hi h => ?_), fun g hg' => ?_⟩
  · rcases hl i h with h' | h'
    · exact h'
    · omega
  · rcases hat with h | h
    · exact hl g (h ▸ hg')
    · rw [h] at hg'
      have := hk.size
      simp at hg'
      right; omega

set_option maxHeartbeats 1000000 in
set_option maxRecDepth 100000 in
theorem uvarint_any (B n x : Nat) (hx : x < 18446744073709551616) (sv : Value) (xs : List Value) (w : World) (hown : w.ownsRow B 5 1 sv n xs) (hBw : B ≤ w.heap.size) (hlim : n + 10 ≤ 140737488355328) :
    Calls Ybaf.prog 9 #[sv, .int .u64 x] w fun e w' => ∃ v', e = .returned v' ∧ w'.ownsRow B 5 1 v' (n + (Lib.uvarint x).length) (xs ++ Lib.byteCells (Lib.uvarint x)) ∧ Kept w w' (fun k => sv.ownBlock = some k) ∧ Lies w sv v' := by
  obtain ⟨i0, hi, hz0, hz1, hz2⟩ := info_parts Ybaf.info5
  have hlen := Lib.uvarint_length64 hx
  go_enter Ybaf.func9, Ybaf.ntmps9
  go_wp2
  go_loopw [0, 1] (fun vb vx wr => ∃ (y : Nat) (pre : List UInt8), vx = .int .u64 y ∧ y ≤ x ∧ Lib.uvarint x = pre ++ Lib.uvarint y ∧ wr.ownsRow B 5 1 vb (n + pre.length) (xs ++ Lib.byteCells pre) ∧ Kept w wr (fun k => sv.ownBlock = some k) ∧ Lies w sv vb)
    (fun _ vx _ => (intOf vx).toNat)
  case atStart => exact ⟨x, [], rfl, Nat.le_refl _, rfl, by simpa [Lib.byteCells] using hown, Kept.refl _ _, fun _ h => .inl h⟩
  case round =>
    obtain ⟨y, pre, rfl, hy, hsplit, hown1, hnx, hli⟩ := hrel
    have hpl : pre.length + (Lib.uvarint y).length ≤ 10 := by
      have h2 := congrArg List.length hsplit
      rw [List.length_append] at h2
      omega
    have hyp := Lib.uvarint_pos y
    have hsz := hnx.size
    by_cases h128 : 128 ≤ y
    · have hor : bits .or .u8 ((y : Int) % 256) 128 = ((y % 128 + 128 : Nat) : Int) := by
        rw [Lib.u8_or128_any _ (by omega) (by omega)]
        omega
      go_wp2_with (at_builtin; refine wpList_append_own_at _ rfl _ _ 23 rfl B 5 i0 (.int .u8 0) 1 1 Ybaf.underlying23 hi hz0 hz1 hz2 rfl (by decide) _ _ _ rfl (hown1.alloc _) ⟨wr.heap.size, 0, none⟩ 1 1 [Value.int .u8 ((y % 128 + 128 : Nat) : Int)] rfl rfl ?c1 ?c2 ?c3 ?c4 ?c5 ?_)
      case c1 =>
        intro j u hj
        match j, hj with
        | 0, hj => simp at hj; subst hj; simp [Addr.add]
      case c2 => intro u hu; simp at hu; subst hu; rfl
      case c3 => unfold maxLen; omega
      case c4 => omega
      case c5 => simp; omega
      intro v' w1 hown' hgrow _ hat
      have R := step_frame hnx hli hgrow (by simpa using hat)
      clear hgrow hat hnx hli
      go_wp2
      go_roundw
      case rel =>
        refine ⟨y / 128, pre ++ [(y % 128 + 128).toUInt8], by go_num, by omega, by rw [hsplit, Lib.uvarint_big h128]; simp, ?_, R.1, R.2⟩
        have ec : ((y % 128 + 128 : Nat) : Int) = (y : Int) % 128 + 128 := by omega
        rw [Lib.byteCells_snoc pre (by omega), List.length_append, List.length_singleton, ← Nat.add_assoc, ec, ← List.append_assoc]
        simpa using hown'
      case measure => simp [intOf]; omega
    · have hsm : Lib.uvarint y = [y.toUInt8] := Lib.uvarint_small (by omega)
      go_wp2_with (at_builtin; refine wpList_append_own_at _ rfl _ _ 23 rfl B 5 i0 (.int .u8 0) 1 1 Ybaf.underlying23 hi hz0 hz1 hz2 rfl (by decide) _ _ _ rfl (hown1.alloc _) ⟨wr.heap.size, 0, none⟩ 1 1 [Value.int .u8 (y : Int)] rfl rfl ?c1 ?c2 ?c3 ?c4 ?c5 ?_)
      case c1 =>
        intro j u hj
        match j, hj with
        | 0, hj => simp at hj; subst hj; simp [Addr.add]
      case c2 => intro u hu; simp at hu; subst hu; rfl
      case c3 => unfold maxLen; omega
      case c4 => omega
      case c5 => simp; omega
      intro v' w1 hown' hgrow _ hat
      have R := step_frame hnx hli hgrow (by simpa using hat)
      clear hgrow hat hnx hli
      go_wp2
      go_ret
      refine ⟨v', rfl, ?_, R.1, R.2⟩
      rw [hsplit, hsm, Lib.byteCells_snoc pre (by omega), List.length_append, List.length_singleton, ← Nat.add_assoc]
      exact hown'



set_option maxHeartbeats 1000000 in
theorem equal_row (b1 c b2 d n : Nat) (zs : List Int) (w : World) (hz : zs.length = n) (hbig : n ≤ 9223372036854775807)
    (hc1 : ∀ j, j < n → w.cell? ⟨b1, j, none⟩ = some (.int .u64 (zs.getD j 0))) (hc2 : ∀ j, j < n → w.cell? ⟨b2, j, none⟩ = some (.int .u64 (zs.getD j 0))) :
    Calls Ybaf.prog 7 #[.slice (some ⟨b1, 0, none⟩) n c, .slice (some ⟨b2, 0, none⟩) n d] w fun e w' => e = .returned (.bool true) ∧ ∃ q, w' = w.drewN q := by
  have HZ : Hid (zs.length = n) := hz
  clear hz
  go_enter Ybaf.func7, Ybaf.ntmps7
  go_wp2
  go_loopg [13] n (fun g s13 wr => ∃ k q : Nat, k ≤ n ∧ n - k ≤ g ∧ s13 = .int .i64 k ∧ wr = w.drewN q)
  case atStart => exact ⟨0, 0, Nat.zero_le _, by omega, rfl, rfl⟩
  case round =>
    obtain ⟨k, q, hk, hg, rfl, rfl⟩ := hrel
    by_cases hlt : k < n
    · have g1 := hc1 k hlt
      have g2 := hc2 k hlt
      clear hc1 hc2
      generalize zs.getD k 0 = x at g1 g2
      go_wp2_with fail
      go_region
      go_wp2
      go_roundg (n - (k + 1))
      case measure => omega
      case rel => exact ⟨k + 1, q + 1, by omega, by omega, by go_num, rfl⟩
    · have : k = n := by omega
      subst this
      clear hc1 hc2
      go_wp2
      go_ret
      exact ⟨rfl, q, rfl⟩

theorem equal_empty (a b : Option Addr) (c d : Nat) (w : World) :
    Calls Ybaf.prog 7 #[.slice a 0 c, .slice b 0 d] w fun e w' => e = .returned (.bool true) ∧ ∃ q, w' = w.drewN q := by
  go_enter Ybaf.func7, Ybaf.ntmps7
  go_wp2
  refine wp_loop_rounds 1 ?_
  rw [rounds_succ]
  go_wp2
  go_ret
  exact ⟨rfl, 0, rfl⟩

/-- slices.Equal at two rows that hold the same numbers. -/
theorem equal_same (B1 B2 n : Nat) (v1 v2 : Value) (zs : List Int) (w : World) (hbig : n ≤ 9223372036854775807)
    (h1 : w.ownsRow B1 25 1 v1 n (zs.map (Value.int .u64))) (h2 : w.ownsRow B2 25 1 v2 n (zs.map (Value.int .u64))) :
    Calls Ybaf.prog 7 #[v1, v2] w fun e w' => e = .returned (.bool true) ∧ ∃ q, w' = w.drewN q := by
  have hz : zs.length = n := by simpa using h1.1
  have hcell : ∀ {B : Nat} {g : Nat} {v : Value}, w.ownsRow B 25 1 v n (zs.map (Value.int .u64)) → v.ownBlock = some g → ∀ j, j < n → w.cell? ⟨g, j, none⟩ = some (.int .u64 (zs.getD j 0)) := by
    intro B g v h hg j hj
    have := h.cells hg j (.int .u64 (zs.getD j 0)) (by simp [List.getD, show j < zs.length by omega])
    simpa [Addr.add_lit] using this
  rcases h1.2 with ⟨e1, hn⟩ | ⟨g1, c1, cur1, e1, _⟩ <;> rcases h2.2 with ⟨e2, hn2⟩ | ⟨g2, c2, cur2, e2, _⟩
  · subst e1 e2 hn; exact equal_empty _ _ _ _ w
  · subst e1 e2 hn; exact equal_empty _ _ _ _ w
  · subst e1 e2 hn2; exact equal_empty _ _ _ _ w
  · subst e1 e2
    exact equal_row g1 c1 g2 c2 n zs w hz hbig (hcell h1 rfl) (hcell h2 rfl)

end Go.Proofs.YbulkcqwcFmt

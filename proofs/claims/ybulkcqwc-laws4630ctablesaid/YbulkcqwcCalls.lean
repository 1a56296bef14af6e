/-
  The contracts of the functions that both laws call: slices.Clone, AppendUvarint and its hand-written model, appendBytes, slices.Equal.
-/
import Derived.Test.YbulkcqwcRows
import Derived.Test.YbulkcqwcLaws
import Derived.WalkSpells
import Derived.Deep.QuietTactic
import Derived.BigQuiet
import Derived.Deep.LoopGhost
namespace Go.Proofs.Ybulkcqwc
open Go Go.RowKit
set_option linter.unusedVariables false

theorem Yba.info5 : (Yba.prog.info? 5).map (fun i => (i.zero, i.size, i.bytes)) = some (some (.int .u8 0), 1, 1) := by kernel_rfl

/-- slices.Clone of a slice that is not nil. -/
theorem clone_some (a : Addr) (n c : Nat) (news : List Value) (w : World) (hl : news.length = n) (hn : n ≤ 1048576)
    (hc : ∀ j u, news[j]? = some u → w.cell? (a.add j) = some u) (h1 : ∀ u ∈ news, u.oneCell' = true) :
    Calls Yba.prog 5 #[.slice (some a) n c] w fun e w' => ∃ v', e = .returned v' ∧ w'.ownsRow w.heap.size 5 1 v' n news ∧ Below w.heap.size w w' := by
  obtain ⟨i0, hi, hz0, hz1, hz2⟩ := info_parts Yba.info5
  have q22 : ∀ (w : World) (a : Option Addr) (n c n' c' : Nat), (binOp .eql 22 (.slice a n c) (.slice none n' c')).run Yba.prog w = .ok (.bool a.isNone) w := fun w a n c n' c' => Lib.run_eql_slice_nil w _ _ a n c n' c' Yba.underlying22
  have A : Hid (∀ j u, news[j]? = some u → w.cell? (a.add j) = some u) := hc
  have HL : Hid (news.length = n) := hl
  clear hc hl
  go_enter Yba.func5, Yba.ntmps5
  go_wp2_with (at_builtin; refine wpList_append_own _ rfl _ _ 22 rfl w.heap.size 5 i0 (.int .u8 0) 1 1 Yba.underlying22 hi hz0 hz1 hz2 rfl (by decide) _ _ _ rfl (World.ownsRow_made w #[] 0 (Nat.le_refl _) (Nat.zero_le _) (by simp)) a n c news rfl ?qc1 ?qc2 ?qc3 ?qc4 ?qc5 ?qc6 ?_)
  case qc1 => rw [HL.out, Nat.mul_one]
  case qc2 =>
    intro j u hj
    have h := A.out j u hj
    rw [← h]
    exact World.cell?_of_block (Below.heap_alloc _ _ _ (World.block_lt_of_cell? w _ h))
  case qc3 => exact h1
  case qc4 => unfold maxLen; omega
  case qc5 => omega
  case qc6 => simp
  intro v' w1 hown hgrow _
  go_wp2
  go_ret
  refine ⟨v', rfl, by simpa using hown, ?_⟩
  exact ((Below.refl _ w).alloc (Nat.le_refl _) _).grown hgrow (by simp) (by intro k hk; simp [Value.ownBlock] at hk; omega)

theorem clone_nil (n c : Nat) (w : World) : Calls Yba.prog 5 #[.slice none n c] w fun e w' => e = .returned (.slice none 0 0) ∧ w' = w := by
  have q22 : ∀ (w : World) (a : Option Addr) (n c n' c' : Nat), (binOp .eql 22 (.slice a n c) (.slice none n' c')).run Yba.prog w = .ok (.bool a.isNone) w := fun w a n c n' c' => Lib.run_eql_slice_nil w _ _ a n c n' c' Yba.underlying22
  go_enter Yba.func5, Yba.ntmps5
  go_wp2
  go_ret
  exact ⟨rfl, rfl⟩

/-- What is asked of a slice to be cloned: nil, or a row of cells. -/
def Rowed (w : World) (a : Option Addr) (news : List Value) : Prop :=
  (a = none ∧ news = []) ∨ ∃ x, a = some x ∧ ∀ j u, news[j]? = some u → w.cell? (x.add j) = some u

theorem clone_any (a : Option Addr) (n c : Nat) (news : List Value) (w : World) (hl : news.length = n) (hn : n ≤ 1048576) (hr : Rowed w a news) (h1 : ∀ u ∈ news, u.oneCell' = true) :
    Calls Yba.prog 5 #[.slice a n c] w fun e w' => ∃ v', e = .returned v' ∧ w'.ownsRow w.heap.size 5 1 v' n news ∧ Below w.heap.size w w' := by
  rcases hr with ⟨rfl, rfl⟩ | ⟨x, rfl, hc⟩
  · subst hl
    refine (clone_nil _ c w).mono ?_
    rintro e w' ⟨rfl, rfl⟩
    exact ⟨_, rfl, World.ownsRow_nil _ _ _ _, Below.refl _ _⟩
  · exact clone_some x n c news w hl hn hc h1
theorem step_frame {w wr w1 : World} {sv vb v' : Value} {o : Obj} (hk : Kept w wr (fun k => sv.ownBlock = some k)) (hl : Lies w sv vb) (hg : (wr.alloc o).grownBy w1 vb.ownBlock)
    (hat : v'.ownBlock = vb.ownBlock ∨ v'.ownBlock = some (wr.heap.size + 1)) : Kept w w1 (fun k => sv.ownBlock = some k) ∧ Lies w sv v' := by
  refine ⟨(hk.trans (Kept.alloc wr o (fun _ => False)) (fun _ _ h => h.elim)).trans (Kept.grown hg) (fun i hi h => ?_), fun g hg' => ?_⟩
  · rcases hl i h with h' | h'
    · exact h'
    · omega
  · rcases hat with h | h
    · exact hl g (h ▸ hg')
    · rw [h] at hg'
      have := hk.size
      simp at hg'
      right; omega

set_option maxHeartbeats 1000000 in
set_option maxRecDepth 100000 in
theorem uvarint_any (B n x : Nat) (hx : x < 18446744073709551616) (sv : Value) (xs : List Value) (w : World) (hown : w.ownsRow B 5 1 sv n xs) (hBw : B ≤ w.heap.size) (hlim : n + 10 ≤ 140737488355328) :
    Calls Yba.prog 10 #[sv, .int .u64 x] w fun e w' => ∃ v', e = .returned v' ∧ w'.ownsRow B 5 1 v' (n + (Lib.uvarint x).length) (xs ++ Lib.byteCells (Lib.uvarint x)) ∧ Kept w w' (fun k => sv.ownBlock = some k) ∧ Lies w sv v' := by
  obtain ⟨i0, hi, hz0, hz1, hz2⟩ := info_parts Yba.info5
  have hlen := Lib.uvarint_length64 hx
  go_enter Yba.func10, Yba.ntmps10
  go_wp2
  go_loopw [0, 1] (fun vb vx wr => ∃ (y : Nat) (pre : List UInt8), vx = .int .u64 y ∧ y ≤ x ∧ Lib.uvarint x = pre ++ Lib.uvarint y ∧ wr.ownsRow B 5 1 vb (n + pre.length) (xs ++ Lib.byteCells pre) ∧ Kept w wr (fun k => sv.ownBlock = some k) ∧ Lies w sv vb)
    (fun _ vx _ => (intOf vx).toNat)
  case atStart => exact ⟨x, [], rfl, Nat.le_refl _, rfl, by simpa [Lib.byteCells] using hown, Kept.refl _ _, fun _ h => .inl h⟩
  case round =>
    obtain ⟨y, pre, rfl, hy, hsplit, hown1, hnx, hli⟩ := hrel
    have hpl : pre.length + (Lib.uvarint y).length ≤ 10 := by
      have h2 := congrArg List.length hsplit
      rw [List.length_append] at h2
      omega
    have hyp := Lib.uvarint_pos y
    have hsz := hnx.size
    by_cases h128 : 128 ≤ y
    · have hor : bits .or .u8 ((y : Int) % 256) 128 = ((y % 128 + 128 : Nat) : Int) := by
        rw [Lib.u8_or128_any _ (by omega) (by omega)]
        omega
      go_wp2_with (at_builtin; refine wpList_append_own_at _ rfl _ _ 22 rfl B 5 i0 (.int .u8 0) 1 1 Yba.underlying22 hi hz0 hz1 hz2 rfl (by decide) _ _ _ rfl (hown1.alloc _) ⟨wr.heap.size, 0, none⟩ 1 1 [Value.int .u8 ((y % 128 + 128 : Nat) : Int)] rfl rfl ?c1 ?c2 ?c3 ?c4 ?c5 ?_)
      case c1 =>
        intro j u hj
        match j, hj with
        | 0, hj => simp at hj; subst hj; simp [Addr.add]
      case c2 => intro u hu; simp at hu; subst hu; rfl
      case c3 => unfold maxLen; omega
      case c4 => omega
      case c5 => simp; omega
      intro v' w1 hown' hgrow _ hat
      have R := step_frame hnx hli hgrow (by simpa using hat)
      clear hgrow hat hnx hli
      go_wp2
      go_roundw
      case rel =>
        refine ⟨y / 128, pre ++ [(y % 128 + 128).toUInt8], by go_num, by omega, by rw [hsplit, Lib.uvarint_big h128]; simp, ?_, R.1, R.2⟩
        have ec : ((y % 128 + 128 : Nat) : Int) = (y : Int) % 128 + 128 := by omega
        rw [Lib.byteCells_snoc pre (by omega), List.length_append, List.length_singleton, ← Nat.add_assoc, ec, ← List.append_assoc]
        simpa using hown'
      case measure => simp [intOf]; omega
    · have hsm : Lib.uvarint y = [y.toUInt8] := Lib.uvarint_small (by omega)
      go_wp2_with (at_builtin; refine wpList_append_own_at _ rfl _ _ 22 rfl B 5 i0 (.int .u8 0) 1 1 Yba.underlying22 hi hz0 hz1 hz2 rfl (by decide) _ _ _ rfl (hown1.alloc _) ⟨wr.heap.size, 0, none⟩ 1 1 [Value.int .u8 (y : Int)] rfl rfl ?c1 ?c2 ?c3 ?c4 ?c5 ?_)
      case c1 =>
        intro j u hj
        match j, hj with
        | 0, hj => simp at hj; subst hj; simp [Addr.add]
      case c2 => intro u hu; simp at hu; subst hu; rfl
      case c3 => unfold maxLen; omega
      case c4 => omega
      case c5 => simp; omega
      intro v' w1 hown' hgrow _ hat
      have R := step_frame hnx hli hgrow (by simpa using hat)
      clear hgrow hat hnx hli
      go_wp2
      go_ret
      refine ⟨v', rfl, ?_, R.1, R.2⟩
      rw [hsplit, hsm, Lib.byteCells_snoc pre (by omega), List.length_append, List.length_singleton, ← Nat.add_assoc]
      exact hown'

set_option maxHeartbeats 1000000 in
set_option maxRecDepth 100000 in
theorem model_any (B n x : Nat) (hx : x < 18446744073709551616) (sv : Value) (xs : List Value) (w : World) (hown : w.ownsRow B 5 1 sv n xs) (hBw : B ≤ w.heap.size) (hlim : n + 10 ≤ 140737488355328) :
    Calls Yba.prog 7 #[sv, .int .u64 x] w fun e w' => ∃ v', e = .returned v' ∧ w'.ownsRow B 5 1 v' (n + (Lib.uvarint x).length) (xs ++ Lib.byteCells (Lib.uvarint x)) ∧ Kept w w' (fun k => sv.ownBlock = some k) ∧ Lies w sv v' := by
  obtain ⟨i0, hi, hz0, hz1, hz2⟩ := info_parts Yba.info5
  have hlen := Lib.uvarint_length64 hx
  go_enter Yba.func7, Yba.ntmps7
  go_wp2
  go_loopw [0, 1] (fun vb vx wr => ∃ (y : Nat) (pre : List UInt8), vx = .int .u64 y ∧ y ≤ x ∧ Lib.uvarint x = pre ++ Lib.uvarint y ∧ wr.ownsRow B 5 1 vb (n + pre.length) (xs ++ Lib.byteCells pre) ∧ Kept w wr (fun k => sv.ownBlock = some k) ∧ Lies w sv vb)
    (fun _ vx _ => (intOf vx).toNat)
  case atStart => exact ⟨x, [], rfl, Nat.le_refl _, rfl, by simpa [Lib.byteCells] using hown, Kept.refl _ _, fun _ h => .inl h⟩
  case round =>
    obtain ⟨y, pre, rfl, hy, hsplit, hown1, hnx, hli⟩ := hrel
    have hpl : pre.length + (Lib.uvarint y).length ≤ 10 := by
      have h2 := congrArg List.length hsplit
      rw [List.length_append] at h2
      omega
    have hyp := Lib.uvarint_pos y
    have hsz := hnx.size
    by_cases h128 : 128 ≤ y
    · have hor : bits .or .u8 ((y : Int) % 256) 128 = ((y % 128 + 128 : Nat) : Int) := by
        rw [Lib.u8_or128_any _ (by omega) (by omega)]
        omega
      go_wp2_with (at_builtin; refine wpList_append_own_at _ rfl _ _ 22 rfl B 5 i0 (.int .u8 0) 1 1 Yba.underlying22 hi hz0 hz1 hz2 rfl (by decide) _ _ _ rfl (hown1.alloc _) ⟨wr.heap.size, 0, none⟩ 1 1 [Value.int .u8 ((y % 128 + 128 : Nat) : Int)] rfl rfl ?c1 ?c2 ?c3 ?c4 ?c5 ?_)
      case c1 =>
        intro j u hj
        match j, hj with
        | 0, hj => simp at hj; subst hj; simp [Addr.add]
      case c2 => intro u hu; simp at hu; subst hu; rfl
      case c3 => unfold maxLen; omega
      case c4 => omega
      case c5 => simp; omega
      intro v' w1 hown' hgrow _ hat
      have R := step_frame hnx hli hgrow (by simpa using hat)
      clear hgrow hat hnx hli
      go_wp2
      go_roundw
      case rel =>
        refine ⟨y / 128, pre ++ [(y % 128 + 128).toUInt8], by go_num, by omega, by rw [hsplit, Lib.uvarint_big h128]; simp, ?_, R.1, R.2⟩
        have ec : ((y % 128 + 128 : Nat) : Int) = (y : Int) % 128 + 128 := by omega
        rw [Lib.byteCells_snoc pre (by omega), List.length_append, List.length_singleton, ← Nat.add_assoc, ec, ← List.append_assoc]
        simpa using hown'
      case measure => simp [intOf]; omega
    · have hsm : Lib.uvarint y = [y.toUInt8] := Lib.uvarint_small (by omega)
      go_wp2_with (at_builtin; refine wpList_append_own_at _ rfl _ _ 22 rfl B 5 i0 (.int .u8 0) 1 1 Yba.underlying22 hi hz0 hz1 hz2 rfl (by decide) _ _ _ rfl (hown1.alloc _) ⟨wr.heap.size, 0, none⟩ 1 1 [Value.int .u8 (y : Int)] rfl rfl ?c1 ?c2 ?c3 ?c4 ?c5 ?_)
      case c1 =>
        intro j u hj
        match j, hj with
        | 0, hj => simp at hj; subst hj; simp [Addr.add]
      case c2 => intro u hu; simp at hu; subst hu; rfl
      case c3 => unfold maxLen; omega
      case c4 => omega
      case c5 => simp; omega
      intro v' w1 hown' hgrow _ hat
      have R := step_frame hnx hli hgrow (by simpa using hat)
      clear hgrow hat hnx hli
      go_wp2
      go_ret
      refine ⟨v', rfl, ?_, R.1, R.2⟩
      rw [hsplit, hsm, Lib.byteCells_snoc pre (by omega), List.length_append, List.length_singleton, ← Nat.add_assoc]
      exact hown'

set_option maxHeartbeats 1000000 in
set_option maxRecDepth 100000 in
/-- appendBytes at a string: the varint of its length, and its bytes. -/
theorem appendBytes_any (B n : Nat) (s : ByteArray) (hs : s.size ≤ 1048576) (sv : Value) (xs : List Value) (w : World) (hown : w.ownsRow B 5 1 sv n xs) (hBw : B ≤ w.heap.size) (hlim : n ≤ 10000000) :
    Calls Yba.prog 9 #[sv, .string s] w fun e w' => ∃ v', e = .returned v' ∧ w'.ownsRow B 5 1 v' (n + (Lib.uvarint s.size).length + s.size) (xs ++ (Lib.byteCells (Lib.uvarint s.size) ++ Go.byteCells s)) ∧ Kept w w' (fun k => sv.ownBlock = some k) ∧ Lies w sv v' := by
  obtain ⟨i0, hi, hz0, hz1, hz2⟩ := info_parts Yba.info5
  have hlen := Lib.uvarint_length64 (x := s.size) (by omega)
  go_enter Yba.func9, Yba.ntmps9
  go_wp2_with fail
  refine (uvarint_any B n s.size (by omega) sv xs _ hown hBw (by omega)).mono ?_
  rintro e w1 ⟨v1, rfl, hown1, hk1, hl1⟩
  have hsz := hk1.size
  go_wp2_with (at_builtin; refine wpList_append_own_src _ rfl _ _ 22 9 rfl B 5 i0 (.int .u8 0) 1 1 Yba.underlying22 hi hz0 hz1 hz2 rfl (by decide) _ _ _ rfl hown1 _ s.size (Go.byteCells s) rfl (Src.ofString w1 Yba.underlying9 s) ?c3 ?c4 ?c5 ?_)
  case c3 => unfold maxLen; omega
  case c4 => omega
  case c5 => omega
  intro v2 w2 hown2 hg2 hat2
  have R : Kept w w2 (fun k => sv.ownBlock = some k) ∧ Lies w sv v2 := by
    refine ⟨hk1.trans (Kept.grown hg2) (fun i hi h => ?_), fun g hg => ?_⟩
    · rcases hl1 i h with h' | h'
      · exact h'
      · omega
    · rcases hat2 with h | h
      · exact hl1 g (h ▸ hg)
      · rw [h] at hg; simp at hg; right; omega
  clear hk1 hl1 hg2 hat2
  go_wp2
  go_ret
  exact ⟨v2, rfl, hown2, R.1, R.2⟩

set_option maxHeartbeats 1000000 in
theorem equal_row (b1 c b2 d n : Nat) (zs : List Int) (w : World) (hz : zs.length = n) (hbig : n ≤ 9223372036854775807)
    (hc1 : ∀ j, j < n → w.cell? ⟨b1, j, none⟩ = some (.int .u8 (zs.getD j 0))) (hc2 : ∀ j, j < n → w.cell? ⟨b2, j, none⟩ = some (.int .u8 (zs.getD j 0))) :
    Calls Yba.prog 8 #[.slice (some ⟨b1, 0, none⟩) n c, .slice (some ⟨b2, 0, none⟩) n d] w fun e w' => e = .returned (.bool true) ∧ ∃ q, w' = w.drewN q := by
  have HZ : Hid (zs.length = n) := hz
  clear hz
  go_enter Yba.func8, Yba.ntmps8
  go_wp2
  go_loopg [13] n (fun g s13 wr => ∃ k q : Nat, k ≤ n ∧ n - k ≤ g ∧ s13 = .int .i64 k ∧ wr = w.drewN q)
  case atStart => exact ⟨0, 0, Nat.zero_le _, by omega, rfl, rfl⟩
  case round =>
    obtain ⟨k, q, hk, hg, rfl, rfl⟩ := hrel
    by_cases hlt : k < n
    · have g1 := hc1 k hlt
      have g2 := hc2 k hlt
      clear hc1 hc2
      generalize zs.getD k 0 = x at g1 g2
      go_wp2_with fail
      go_region
      go_wp2
      go_roundg (n - (k + 1))
      case measure => omega
      case rel => exact ⟨k + 1, q + 1, by omega, by omega, by go_num, rfl⟩
    · have : k = n := by omega
      subst this
      clear hc1 hc2
      go_wp2
      go_ret
      exact ⟨rfl, q, rfl⟩

theorem equal_empty (a b : Option Addr) (c d : Nat) (w : World) :
    Calls Yba.prog 8 #[.slice a 0 c, .slice b 0 d] w fun e w' => e = .returned (.bool true) ∧ ∃ q, w' = w.drewN q := by
  go_enter Yba.func8, Yba.ntmps8
  go_wp2
  refine wp_loop_rounds 1 ?_
  rw [rounds_succ]
  go_wp2
  go_ret
  exact ⟨rfl, 0, rfl⟩

/-- slices.Equal at two rows that hold the same numbers. -/
theorem equal_same (B1 B2 n : Nat) (v1 v2 : Value) (zs : List Int) (w : World) (hbig : n ≤ 9223372036854775807)
    (h1 : w.ownsRow B1 5 1 v1 n (zs.map (Value.int .u8))) (h2 : w.ownsRow B2 5 1 v2 n (zs.map (Value.int .u8))) :
    Calls Yba.prog 8 #[v1, v2] w fun e w' => e = .returned (.bool true) ∧ ∃ q, w' = w.drewN q := by
  have hz : zs.length = n := by simpa using h1.1
  have hcell : ∀ {B : Nat} {g : Nat} {v : Value}, w.ownsRow B 5 1 v n (zs.map (Value.int .u8)) → v.ownBlock = some g → ∀ j, j < n → w.cell? ⟨g, j, none⟩ = some (.int .u8 (zs.getD j 0)) := by
    intro B g v h hg j hj
    have := h.cells hg j (.int .u8 (zs.getD j 0)) (by simp [List.getD, show j < zs.length by omega])
    simpa [Addr.add_lit] using this
  rcases h1.2 with ⟨e1, hn⟩ | ⟨g1, c1, cur1, e1, _⟩ <;> rcases h2.2 with ⟨e2, hn2⟩ | ⟨g2, c2, cur2, e2, _⟩
  · subst e1 e2 hn; exact equal_empty _ _ _ _ w
  · subst e1 e2 hn; exact equal_empty _ _ _ _ w
  · subst e1 e2 hn2; exact equal_empty _ _ _ _ w
  · subst e1 e2
    exact equal_row g1 c1 g2 c2 n zs w hz hbig (hcell h1 rfl) (hcell h2 rfl)

end Go.Proofs.Ybulkcqwc

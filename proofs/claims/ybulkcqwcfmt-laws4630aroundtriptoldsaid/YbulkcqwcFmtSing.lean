/-
  The contracts of ClockEntry.singles and of zzs4630asingles.
-/
import Derived.Test.YbulkcqwcFmtList
import Derived.Laws.Bits128
namespace Go.Proofs.YbulkcqwcFmt
open Go Go.RowKit
set_option linter.unusedVariables false

theorem and127_num (z : Nat) (hz : z < 9223372036854775808) : bits .and .i64 (wrap64 (z : Int)) 127 = ((z % 128 : Nat) : Int) := by
  have e : wrap64 (z : Int) = (z : Int) := by rw [wrap64]; omega
  rw [e, i64_and127]
  omega
theorem add_bound (y : Nat) (h : y ≤ 1085102592571150095) : add3 (add2 (add1 y)) < 9223372036854775808 := by
  unfold add3 add2 add1
  omega

/-- OnesCount64 of a word's bits. -/
theorem ones64 (x : Nat) (hx : x < 18446744073709551616) (w : World) :
    Calls Ybaf.prog 28 #[.int .u64 x] w fun e w' => e = .returned (.int .i64 (pcAux 64 x : Nat)) ∧ w' = w := by
  have hp := fold64_pc x hx
  have hA := fun (a m : Nat) => Nat.and_le_right (n := a) (m := m)
  rw [← hp]
  unfold fold64
  have l1 : f1 8 x < 18446744073709551616 := by
    unfold f1; rw [m55]
    have := hA (x / 2) 6148914691236517205; have := hA x 6148914691236517205; omega
  have l2 : f2 8 (f1 8 x) < 18446744073709551616 := by
    unfold f2; rw [m33]
    have := hA (f1 8 x / 4) 3689348814741910323; have := hA (f1 8 x) 3689348814741910323; omega
  have b2 : f2 8 (f1 8 x) ≤ 7378697629483820646 := by
    unfold f2; rw [m33]
    have := hA (f1 8 x / 4) 3689348814741910323; have := hA (f1 8 x) 3689348814741910323; omega
  have l3 : f3 8 (f2 8 (f1 8 x)) ≤ 1085102592571150095 := by
    unfold f3; rw [m0f]; exact hA _ _
  refine ones_core x (f1 8 x) (f2 8 (f1 8 x)) (f3 8 (f2 8 (f1 8 x))) (add1 (f3 8 (f2 8 (f1 8 x)))) (add2 (add1 (f3 8 (f2 8 (f1 8 x))))) (add3 (add2 (add1 (f3 8 (f2 8 (f1 8 x)))))) _ w ?_ ?_ ?_ ?_ ?_ ?_ ?_
  · have e := u64_and_nat (x / 2) 6148914691236517205 (by omega) (by decide)
    have e' := u64_and_nat x 6148914691236517205 hx (by decide)
    rw [show ((x : Int) / 2) = ((x / 2 : Nat) : Int) by omega]
    have e0 : (6148914691236517205 : Int) = ((6148914691236517205 : Nat) : Int) := rfl
    rw [e0, e, e', IntKind.wrap_u64]
    unfold f1 at l1 ⊢
    rw [m55] at l1 ⊢
    omega
  · generalize f1 8 x = y at *
    have e := u64_and_nat (y / 4) 3689348814741910323 (by omega) (by decide)
    have e' := u64_and_nat y 3689348814741910323 l1 (by decide)
    rw [show ((y : Int) / 4) = ((y / 4 : Nat) : Int) by omega]
    have e0 : (3689348814741910323 : Int) = ((3689348814741910323 : Nat) : Int) := rfl
    rw [e0, e, e', IntKind.wrap_u64]
    unfold f2 at l2 ⊢
    rw [m33] at l2 ⊢
    omega
  · generalize f2 8 (f1 8 x) = y at *
    have e1 : IntKind.u64.wrap ((y : Int) / 16 + (y : Int)) = ((y / 16 + y : Nat) : Int) := by rw [IntKind.wrap_u64]; omega
    have e0 : (1085102592571150095 : Int) = ((1085102592571150095 : Nat) : Int) := rfl
    rw [e1, e0, u64_and_nat _ _ (by omega) (by decide)]
    unfold f3
    rw [m0f]
  · generalize f3 8 (f2 8 (f1 8 x)) = y at *
    unfold add1; rw [IntKind.wrap_u64]; omega
  · generalize f3 8 (f2 8 (f1 8 x)) = y at *
    unfold add2 add1; rw [IntKind.wrap_u64]; omega
  · generalize f3 8 (f2 8 (f1 8 x)) = y at *
    unfold add3 add2 add1; rw [IntKind.wrap_u64]; omega
  · exact and127_num _ (add_bound _ l3)

theorem ones_val (ps : List Nat) (ha : Asc ps) (h64 : ∀ q ∈ ps, q < 64) (w : World) :
    Calls Ybaf.prog 28 #[.int .u64 (val ps : Nat)] w fun e w' => e = .returned (.int .i64 ps.length) ∧ w' = w := by
  have := ones64 (val ps) (val_lt64 ha h64) w
  rwa [pc_val ps 64 ha h64] at this

theorem field36 (a b : Int) (w : World) : (Instr.field 36 (.agg #[.int .u64 a, .int .u64 b]) 1).run Ybaf.prog w = .ok (.int .u64 b) w := by
  unfold Instr.field
  simp [run_underlying Ybaf.underlying36, go_sem, asAgg]

def upto (ws : List Word) (k : Nat) : Nat := ((ws.take k).map fun w => w.2.length).sum

theorem upto_succ (ws : List Word) (k ix : Nat) (px : List Nat) (h : ws[k]? = some (ix, px)) : upto ws (k + 1) = upto ws k + px.length := by
  obtain ⟨hk, he⟩ := List.getElem?_eq_some_iff.1 h
  unfold upto
  rw [List.take_succ_eq_append_getElem hk, he]
  simp

set_option maxHeartbeats 1000000 in
set_option maxRecDepth 100000 in
theorem singles_ls {w : World} {f : Value} {i q : Nat} {ws : List Word} {cs : List Nat} (h : LsAt w f i q ws) (hg : Good ws cs) (U : Nat) (hf : ∃ a n c, f = .slice a n c) (hl : cs.length ≤ 1048576) :
    Calls Ybaf.prog 15 #[.agg #[.int .u64 U, f, .int .u64 i, .int .u64 q]] w fun e w' => e = .returned (.int .u64 cs.length) ∧ Below w.heap.size w w' := by
  obtain ⟨a, n, c, rfl⟩ := hf
  go_enter Ybaf.func15, Ybaf.ntmps15
  go_wp2_with fail
  refine (count_ls (w := w.alloc _) (h.below ((Below.refl _ w).alloc (Nat.le_refl _) _)) hg).mono ?_
  rintro e w1 ⟨rfl, hb1⟩
  have hs1 : w.heap.size < w1.heap.size := Nat.lt_of_lt_of_le (by simp) hb1.size
  have hsum := hg.sum
  have hwl := hg.len
  have HB : Hid (Below w.heap.size w w1) := ((Below.refl _ w).alloc (Nat.le_refl _) _).trans (hb1.mono (by simp))
  have H1 : Hid (LsAt w1 (.slice a n c) i q ws) := (h.below ((Below.refl _ w).alloc (Nat.le_refl _) _)).below hb1
  have hall : upto ws ws.length = cs.length := by rw [← hsum]; simp [upto]
  have b1 : w1.cell? ⟨w.heap.size, 1, none⟩ = some (.slice a n c) := (hb1.cell (p := ⟨w.heap.size, 1, none⟩) (by simp)).trans (by simp)
  have b2 : w1.cell? ⟨w.heap.size, 2, none⟩ = some (.int .u64 i) := (hb1.cell (p := ⟨w.heap.size, 2, none⟩) (by simp)).trans (by simp)
  have b3 : w1.cell? ⟨w.heap.size, 3, none⟩ = some (.int .u64 q) := (hb1.cell (p := ⟨w.heap.size, 3, none⟩) (by simp)).trans (by simp)
  clear hb1
  go_wp2
  go_loopw [3, 8] (fun v3 v8 wr => ∃ k : Nat, v8 = .int .i64 k ∧ v3 = .int .u64 (upto ws k : Nat) ∧ k ≤ ws.length ∧ upto ws k ≤ cs.length ∧ Below w1.heap.size w1 wr)
    (fun _ v8 _ => ws.length - (intOf v8).toNat)
  case atStart => exact ⟨0, rfl, rfl, by omega, by simp [upto], Below.refl _ _⟩
  case round =>
    obtain ⟨k, rfl, rfl, hk, hul, hbr⟩ := hrel
    have d1 := (hbr.cell (p := ⟨w.heap.size, 1, none⟩) hs1).trans b1
    have d2 := (hbr.cell (p := ⟨w.heap.size, 2, none⟩) hs1).trans b2
    have d3 := (hbr.cell (p := ⟨w.heap.size, 3, none⟩) hs1).trans b3
    by_cases hlt : k < ws.length
    · obtain ⟨⟨ix, px⟩, hx⟩ : ∃ x, ws[k]? = some x := ⟨_, List.getElem?_eq_getElem hlt⟩
      have hnx := hg.nice (ix, px) (List.mem_of_getElem? hx)
      have hus := upto_succ ws k ix px hx
      have hmono : upto ws (k + 1) ≤ cs.length := by
        rw [← hsum]
        have : (ws.map fun w => w.2.length).sum = upto ws (k + 1) + ((ws.drop (k + 1)).map fun w => w.2.length).sum := by
          unfold upto
          rw [← List.sum_append, ← List.map_append, List.take_append_drop]
        omega
      go_wp2_with fail
      refine (at_ls (H1.out.below hbr) k ix px hx).mono ?_
      rintro e w2 ⟨rfl, hb2⟩
      go_wp2_with (simp only [field36])
      refine (ones_val px hnx.2.1 hnx.2.2.1 _).mono ?_
      rintro e w3 ⟨rfl, rfl⟩
      go_wp2
      refine ⟨⟨k + 1, rfl, ?_, by omega, hmono, hbr.trans (hb2.mono hbr.size)⟩, ?_⟩
      · rw [hus]; rfl
      · simp [intOf]; omega
    · have hke : k = ws.length := by omega
      subst hke
      go_wp2
      go_ret
      exact ⟨congrArg Ending.returned (congrArg (Value.int IntKind.u64) (congrArg Int.ofNat hall)), HB.out.trans (hbr.mono (Nat.le_of_lt hs1))⟩
end Go.Proofs.YbulkcqwcFmt

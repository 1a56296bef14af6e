/-
  The proof of 'Rows.LawS4630CPlainSaid'. The frame (the row's step) is the guide's own, written by its skeleton tool; the walk is ours.
-/
import Derived.Test.YbulkcqwcRows
import Derived.Test.YbulkcqwcNode
import Derived.WalkKit
import Derived.ProofKit
import Derived.OpenShut
import Derived.ShutString
import Derived.ChangeOld
import Derived.Below
import Derived.Outline
namespace Go.Proofs.Ybulkcqwc.lawS4630CPlain
open Go.ChangeShapes Go.WideShapes Go.ChangeAt Go.RowKit
open Go.ChangeMaps (open_string shut_string)
set_option linter.unusedVariables false

theorem own : ownKnob Yba.prog.godebug = none := by kernel_rfl
theorem laidOut : laidOutB Yba.prog = true := by kernel_rfl

/-- WHAT THE WALK IS TOLD OF A SLICE OF INTEGERS THAT CAME IN: it is nil; or it leads to a row of 'cap' cells, the numbers 'zs' (the first 'len' are its elements, the rest its spare room), each fitting its kind. -/
def IsRow (k : IntKind) (w : World) (a : Option Addr) (len cap : Nat) (zs : List Int) : Prop :=
  (a = none ∧ len = 0 ∧ cap = 0 ∧ zs = []) ∨
  ∃ x, a = some x ∧ len ≤ cap ∧ cap ≤ maxLen ∧ zs.length = cap ∧ (∀ i, i < zs.length → w.cell? (x.add i) = some (.int k (zs.getD i 0))) ∧ ∀ n ∈ zs, (Lit.int k n).wf = true

/-! ### STEP 1: THE WALK: the Go text returns true, AND WRITES NOTHING THAT WAS THERE: 'Below w.heap.size w w'' (Derived/Below.lean: '.refl', '.alloc', '.drew', '.setCell' at a new block, '.trans'). Open each 'IsRow' by 'rcases' AHEAD of 'go_enter'; part every test ahead of the walk. -/
/-- Bytes as numbers. -/
theorem bytes_map (l : List UInt8) : Lib.byteCells l = (l.map fun b => (b.toNat : Int)).map (Value.int .u8) := by simp [Lib.byteCells]
theorem str_map (s : ByteArray) : Go.byteCells s = (s.data.toList.map fun b => (b.toNat : Int)).map (Value.int .u8) := by simp [Go.byteCells]

theorem rowed_of {w : World} {a : Option Addr} {len cap : Nat} {zs : List Int} (h : IsRow .u8 w a len cap zs) :
    ((zs.take len).map (Value.int .u8)).length = len ∧ Rowed w a ((zs.take len).map (Value.int .u8)) := by
  rcases h with ⟨rfl, rfl, rfl, rfl⟩ | ⟨x, rfl, hl, hm, hz, hc, _⟩
  · exact ⟨rfl, .inl ⟨rfl, rfl⟩⟩
  · refine ⟨by simp; omega, .inr ⟨x, rfl, fun j u hj => ?_⟩⟩
    have hlt : j < len := by
      have := (List.getElem?_eq_some_iff.1 hj).1
      simp at this; omega
    rw [hc j (by omega), ← hj]
    simp [hlt, List.getD, show j < zs.length by omega]

theorem row_lt {w : World} {a : Option Addr} {news : List Value} (h : Rowed w a news) {w' : World} (hb : Below w.heap.size w w') : Rowed w' a news := by
  rcases h with h | ⟨x, rfl, hc⟩
  · exact .inl h
  · exact .inr ⟨x, rfl, fun j u hj => (hb.cell (World.block_lt_of_cell? w _ (hc j u hj))).trans (hc j u hj)⟩

theorem owns_shape {w : World} {B n : Nat} {v : Value} {xs : List Value} (h : w.ownsRow B 5 1 v n xs) : ∃ a c, v = .slice a n c := by
  rcases h.2 with ⟨rfl, rfl⟩ | ⟨g, cap, cur, rfl, _⟩
  · exact ⟨_, _, rfl⟩
  · exact ⟨_, _, rfl⟩

set_option maxHeartbeats 2000000 in
set_option maxRecDepth 100000 in
theorem walk (a0 : Option Addr) (len0 cap0 : Nat) (z0 : List Int) (a1 : ByteArray) (w : World) (w0 : IsRow .u8 w a0 len0 cap0 z0) (w1 : a1.size ≤ maxLen) :
    Calls Yba.prog 3 #[.slice a0 len0 cap0, .string a1] w fun e w' => e = .returned (.bool true) ∧ Below w.heap.size w w' := by
  obtain ⟨hl0, hr0⟩ := rowed_of w0
  by_cases h1 : 1048576 < len0
  · go_enter Yba.func3, Yba.ntmps3
    go_wp2
    go_ret
    exact ⟨rfl, Below.refl _ _⟩
  by_cases h2 : 1048576 < a1.size
  · go_enter Yba.func3, Yba.ntmps3
    go_wp2
    go_ret
    exact ⟨rfl, Below.refl _ _⟩
  obtain ⟨i0, hi, hz0, hz1, hz2⟩ := info_parts Yba.info5
  have HL : Hid (((z0.take len0).map (Value.int .u8)).length = len0) := hl0
  have HR : Hid (Rowed w a0 ((z0.take len0).map (Value.int .u8))) := hr0
  have hone := ints_oneCell .u8 (z0.take len0)
  generalize hX : (z0.take len0).map (Value.int .u8) = X at HL HR hone
  have HX : Hid ((z0.take len0).map (Value.int .u8) = X) := hX
  have hn0 : len0 ≤ 1048576 := by omega
  have hn1 : a1.size ≤ 1048576 := by omega
  clear w0 w1 hl0 hr0 hX
  have q28 := eql28
  go_enter Yba.func3, Yba.ntmps3
  go_wp2_with fail
  refine (clone_any a0 len0 cap0 X _ HL.out hn0 HR.out hone).mono ?_
  rintro e wa ⟨va, rfl, howna, hba⟩
  obtain ⟨aa, ca, rfl⟩ := owns_shape howna
  have hsa := hba.size
  go_wp2_with fail
  refine (node_plain w.heap.size len0 wa.heap.size a1 hn1 (.slice aa len0 ca) X _ (heap_alloc_new wa (encObj (.slice aa len0 ca) (.map none))) (howna.alloc _) (by simp; omega) (by omega)).mono ?_
  rintro e wb ⟨rfl, vb, hEb, hownb, hkb, hlb⟩
  have hbb : Below w.heap.size w wb := by
    refine hba.trans (((Kept.alloc wa _ _).trans hkb (fun i hi h => h)).below _ hsa (fun k hk => ?_))
    rcases hk with rfl | hk
    · exact hsa
    · exact (howna.lt k hk).1
  have hsb : wa.heap.size + 1 ≤ wb.heap.size := by have := hkb.size; simp at this; omega
  clear hkb hlb howna hba
  go_wp2_with fail
  refine (clone_any a0 len0 cap0 X _ HL.out hn0 (row_lt HR.out hbb) hone).mono ?_
  rintro e wc ⟨vc, rfl, hownc, hbc⟩
  obtain ⟨ac, cc, rfl⟩ := owns_shape hownc
  have hsc := hbc.size
  go_wp2_with fail
  refine (model_any wb.heap.size len0 a1.size (by omega) (.slice ac len0 cc) X _ hownc hsc (by omega)).mono ?_
  rintro e wd ⟨vd, rfl, hownd, hkd, hld⟩
  obtain ⟨ad, cd, rfl⟩ := owns_shape hownd
  have hsd := hkd.size
  have hlen := Lib.uvarint_length64 (x := a1.size) (by omega)
  have hbd : Below wb.heap.size wb wd := hbc.trans (hkd.below _ hsc (fun k hk => (hownc.lt k hk).1))
  clear hkd hld hownc hbc
  go_wp2_with (at_builtin; refine wpList_append_own_src _ rfl _ _ 22 9 rfl wb.heap.size 5 i0 (.int .u8 0) 1 1 Yba.underlying22 hi hz0 hz1 hz2 rfl (by decide) _ _ _ rfl hownd _ a1.size (Go.byteCells a1) rfl (Src.ofString wd Yba.underlying9 a1) ?c3 ?c4 ?c5 ?_)
  case c3 => unfold maxLen; omega
  case c4 => omega
  case c5 => omega
  intro ve we howne hge _
  have hbe : Below wb.heap.size wb we := hbd.grown hge (by omega) (fun k hk => (hownd.lt k hk).1)
  have hse := hbe.size
  have hEe : we.heap[wa.heap.size]? = some (encObj vb (.map none)) := (hbe.block _ (by omega)).trans hEb
  have hownf : we.ownsRow w.heap.size 5 1 vb (len0 + (Lib.uvarint a1.size).length + a1.size) (X ++ (Lib.byteCells (Lib.uvarint a1.size) ++ Go.byteCells a1)) := (Kept.ofBelow hbe (fun _ => False)).owns hownb (fun _ _ h => h)
  have hend : Below w.heap.size w we := hbb.trans (hbe.mono (by omega))
  clear hge hbd hownd hEb hownb hbe hbb
  obtain ⟨e0, e2, e3, _⟩ := enc_cells hEe
  clear hEe
  obtain ⟨av, cv, rfl⟩ := owns_shape hownf
  obtain ⟨ae, ce, rfl⟩ := owns_shape howne
  have hXX : X ++ (Lib.byteCells (Lib.uvarint a1.size) ++ Go.byteCells a1) = (z0.take len0 ++ ((Lib.uvarint a1.size).map (fun b => (b.toNat : Int)) ++ a1.data.toList.map (fun b => (b.toNat : Int)))).map (Value.int .u8) := by
    rw [bytes_map, str_map, List.map_append, List.map_append, HX.out]
  rw [hXX] at hownf howne
  clear hXX
  go_wp2_with fail
  refine (equal_same w.heap.size wb.heap.size _ _ _ _ _ (by omega) hownf howne).mono ?_
  rintro e wf ⟨rfl, q, rfl⟩
  clear hownf howne
  go_wp2
  go_ret
  exact ⟨rfl, hend.trans (Kept.below (Kept.drewN _ _ (fun _ => False)) _ (by omega) (fun _ h => h.elim))⟩

/-! ### THE ROW's STEP: WRITTEN OUT: LEAVE IT -/
set_option maxRecDepth 100000 in
theorem lifted (os : Os) (started : os.Started) (H : Type) (enc : TypeId × Value → H) :
    ReturnsInHanded {} Yba.checked os 3 .any (Rows.lawS4630CPlainSpec.pre6 enc Yba.prog Yba.f3 Rows.lawS4630CPlainRow.domain false) (Rows.lawS4630CPlainSpec.post enc Yba.prog Yba.f3 false true false false) := by
  refine returnsInHanded_of_change (C := Yba.checked) own started (by kernel_rfl) Yba.func3
    (ChangeSpec.witness6 (enc := enc) (C := Yba.checked) false ⟨#[], #[.slice none 0 0, .string ByteArray.empty], []⟩ 8 (by kernel_rfl) (by kernel_rfl) (by kernel_rfl) (by kernel_rfl)) ?_
  intro W base args ds gs before hval0 hW hcnd _
  have hval : ∀ (j : Nat) t v, Yba.f3.params[j]? = some t → args[j]? = some v → Value.okWide Yba.prog W .any base t v := hval0
  have hW' := hW
  obtain ⟨p, q, hA0, hV, rfl, hfz, hnd⟩ := hW
  have hA : DataW.TrodAll enc Yba.prog W 0 (fun _ => true) true Yba.f3.params.toList args.toList ds p := hA0
  rw [Yba.params3] at hA hval
  obtain ⟨v0, vs0, d0, ds0, p0, q0, hargs, rfl, rfl, h0, r0⟩ := trodAll_cons hA
  obtain ⟨v1, vs1, d1, ds1, p1, q1, rfl, rfl, rfl, h1, r1⟩ := trodAll_cons r0
  obtain ⟨rfl, rfl, rfl⟩ := trodAll_nil r1
  obtain rfl : args = #[v0, v1] := by cases args; simp_all
  obtain ⟨rfl, rfl⟩ := trodVars_none hV
  obtain ⟨a0, len0, cap0, rfl⟩ := okWide_slice Yba.underlying22 (hval 0 22 v0 rfl rfl)
  have k0 := h0
  have lt0 : ∀ x ∈ p0, x.block < W.heap.size := by obtain ⟨m, hm⟩ := k0; exact DataW.trod_lt m _ _ _ hm
  obtain ⟨z0, w0⟩ : ∃ zs, IsRow .u8 W a0 len0 cap0 zs := by
    obtain ⟨fuel, hf⟩ := h0
    rcases open_ints Yba.underlying22 Yba.underlying5 (by kernel_rfl) hf with ⟨hcs, _⟩ | ⟨x, l, c, zs, hcs, _, hl, hm, hz, _, hcell, hwz⟩
    · simp [Value.cells] at hcs
      obtain ⟨rfl, rfl, rfl⟩ := hcs
      exact ⟨[], .inl ⟨rfl, rfl, rfl, rfl⟩⟩
    · simp [Value.cells] at hcs
      obtain ⟨rfl, rfl, rfl⟩ := hcs
      exact ⟨zs, .inr ⟨_, rfl, hl, hm, by simpa using hz, hcell, hwz⟩⟩
  obtain ⟨a1, rfl, rfl, rfl, w1⟩ := open_string Yba.underlying9 (hval 1 9 v1 rfl rfl) h1
  clear hA0 hval0
  refine (walk a0 len0 cap0 z0 a1 W w0 w1).mono fun e W' ⟨he, bel⟩ => ?_
  subst he
  exact ⟨_, rfl, _, _, _, [], _, [], hW', trodAll_mk1 (shut_bool Yba.underlying4 _), (trodAll_cons_mk (Below.trod laidOut (by kernel_rfl) (of_decide_eq_true (by kernel_rfl)) k0 bel lt0) (trodAll_cons_mk (shut_string Yba.underlying9 w1) trodAll_mk0)), rfl, bel.frame _, fun h => by cases h⟩

theorem over : Rows.lawS4630CPlainRow.holds Yba.pinned (OpenSpec.ofChange Rows.lawS4630CPlainSpec) :=
  OpenClaim.holds_of_wide 3 Yba.f3 rfl rfl rfl rfl rfl rfl rfl ⟨rfl, rfl, rfl, rfl, rfl⟩ rfl rfl rfl rfl rfl (by kernel_rfl) Yba.func3 (by kernel_rfl)
    (of_decide_eq_true (by kernel_rfl)) (by unfold Func.isWrapper; first | (rw [if_pos (by decide +kernel)]; kernel_rfl) | (rw [if_neg (by decide +kernel)]; exact ⟨rfl, rfl⟩))
    (fun os started H enc _ => lifted os started H enc)

/-- ████ THE STATEMENT ████ -/
theorem proved : Rows.LawS4630CPlainSaid := over
#print axioms proved
end Go.Proofs.Ybulkcqwc.lawS4630CPlain

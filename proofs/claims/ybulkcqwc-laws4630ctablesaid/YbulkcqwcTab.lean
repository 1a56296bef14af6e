/-
  The plain law of the table that LawS4630CTable fills, and the walk's facts on what came in.
-/
import Derived.Test.YbulkcqwcNodeT
import Derived.SliceStrings
import Derived.OpenShut
namespace Go.Proofs.Ybulkcqwc
open Go Go.RowKit Go.Maps
set_option linter.unusedVariables false

/-- What the table says of one key: what was last stored there ('wv'), if anything was ('fnd'). -/
def TabInv (D : DataW Unit) (kid : Lit) (wv : Nat) (fnd : Bool) : Prop :=
  (∀ z, D.atKey kid z = if fnd then .lit (.int .u64 wv) else z) ∧ Maps.has D kid = fnd ∧ (fnd = false → wv = 0)

theorem tab_start (kid : Lit) : TabInv (.map []) kid 0 false := ⟨fun z => by simp [DataW.atKey], rfl, fun _ => rfl⟩

theorem keyLit_string (l : List UInt8) : WideAt.IsKeyLit (.string l) := by simp [WideAt.IsKeyLit]

theorem tab_same {D : DataW Unit} {l : List UInt8} (hD : IsMap D) (x : Nat) : TabInv (D.put (.string l) (.lit (.int .u64 x))) (.string l) x true :=
  ⟨fun z => by rw [atKey_put_same hD (keyLit_string l)]; rfl, has_put_same hD (keyLit_string l) _, fun h => by cases h⟩

theorem tab_other {D : DataW Unit} {kid kl : Lit} {wv : Nat} {fnd : Bool} (h : TabInv D kid wv fnd) (hne : kid ≠ kl) (d : DataW Unit) : TabInv (D.put kl d) kid wv fnd :=
  ⟨fun z => by rw [atKey_put_other hne]; exact h.1 z, by rw [has_put_other hne]; exact h.2.1, h.2.2⟩

theorem tab_at {D : DataW Unit} {kid : Lit} {wv : Nat} {fnd : Bool} (h : TabInv D kid wv fnd) : D.atKey kid (.lit (.int .u64 0)) = .lit (.int .u64 wv) := by
  rw [h.1]
  cases fnd
  · simp [h.2.2 rfl]
  · rfl

/-- A slice of strings that came in: nil, or a row of cells. -/
def IsStrs (w : World) (a : Option Addr) (len : Nat) (ss : List ByteArray) : Prop :=
  (a = none ∧ len = 0) ∨ ∃ x, a = some x ∧ len ≤ ss.length ∧ (∀ i, i < ss.length → w.cell? (x.add i) = some (.string (ss.getD i ByteArray.empty))) ∧ ∀ s ∈ ss, s.size ≤ maxLen
def IsU64s (w : World) (a : Option Addr) (len : Nat) (zs : List Int) : Prop :=
  (a = none ∧ len = 0) ∨ ∃ x, a = some x ∧ len ≤ zs.length ∧ (∀ i, i < zs.length → w.cell? (x.add i) = some (.int .u64 (zs.getD i 0))) ∧ ∀ z ∈ zs, (Lit.int .u64 z).wf = true

/-- Its cells, where there is one: at a plain address. -/
theorem strs_at {w : World} {a : Option Addr} {len : Nat} {ss : List ByteArray} (h : IsStrs w a len ss) (hpos : 0 < len) :
    ∃ b off, a = some ⟨b, off, none⟩ ∧ b < w.heap.size ∧ ∀ k, k < len → ∃ s : ByteArray, s.size ≤ maxLen ∧ w.cell? ⟨b, off + k, none⟩ = some (.string s) := by
  rcases h with ⟨_, h0⟩ | ⟨x, rfl, hl, hc, hm⟩
  · omega
  · obtain ⟨b, off, spot⟩ := x
    have hspot : spot = none := by simpa [Addr.add] using World.cell?_spot (hc 0 (by omega))
    subst hspot
    refine ⟨b, off, rfl, World.block_lt_of_cell? w _ (hc 0 (by omega)), fun k hk => ⟨ss.getD k ByteArray.empty, ?_, ?_⟩⟩
    · apply hm
      rw [List.getD_eq_getElem?_getD, List.getElem?_eq_getElem (by omega)]
      exact List.getElem_mem _
    · rw [← hc k (by omega), Addr.add_lit]

theorem u64s_at {w : World} {a : Option Addr} {len : Nat} {zs : List Int} (h : IsU64s w a len zs) (hpos : 0 < len) :
    ∃ b off, a = some ⟨b, off, none⟩ ∧ b < w.heap.size ∧ ∀ k, k < len → ∃ x : Nat, x < 18446744073709551616 ∧ w.cell? ⟨b, off + k, none⟩ = some (.int .u64 x) := by
  rcases h with ⟨_, h0⟩ | ⟨x, rfl, hl, hc, hm⟩
  · omega
  · obtain ⟨b, off, spot⟩ := x
    have hspot : spot = none := by simpa [Addr.add] using World.cell?_spot (hc 0 (by omega))
    subst hspot
    refine ⟨b, off, rfl, World.block_lt_of_cell? w _ (hc 0 (by omega)), fun k hk => ?_⟩
    have hw : (Lit.int .u64 (zs.getD k 0)).wf = true := by
      apply hm
      rw [List.getD_eq_getElem?_getD, List.getElem?_eq_getElem (by omega)]
      exact List.getElem_mem _
    have hb := bounds_u64 hw
    refine ⟨(zs.getD k 0).toNat, by omega, ?_⟩
    rw [Int.toNat_of_nonneg hb.1, ← hc k (by omega), Addr.add_lit]

theorem make28 (q : Int) (w : World) : (Instr.makeMap 28 (some (.int .i64 q))).run Yba.prog w = .ok (.map (some w.heap.size)) (w.alloc (.map #[] 0)) := by
  have := run_underlying (P := Yba.prog) Yba.underlying28
  simp [Instr.makeMap, this]
  rfl
end Go.Proofs.Ybulkcqwc

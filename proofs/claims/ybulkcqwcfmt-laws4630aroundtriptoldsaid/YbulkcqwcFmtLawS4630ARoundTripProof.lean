/-
  The proof of 'Rows.LawS4630ARoundTripToldSaid'. The frame is the guide's own (a row whose fmt text is told, tied to the program's text); the walk is ours.
-/
import Derived.Test.YbulkcqwcFmtWalk
import Derived.Test.YbulkcqwcFmtTie
import Derived.Test.YbulkcqwcFmtCards
import Derived.ProofKit
import Derived.Stop.JoinedAt
import Derived.Stop.JoinedTold
import Derived.Stop.Texts
import Derived.Stop.LaidErr
import Derived.ShutString
import Derived.OpenShut
import Derived.Lib.LaidTab
import Derived.SevenTiedAt
namespace Go.Proofs.YbulkcqwcFmt.lawS4630ARoundTrip
open Go Go.ChangeShapes Go.WideShapes Go.ChangeAt Go.RowKit Go.Kit
open Go.Extern.Stop Go.Stop Go.Extern
set_option linter.unusedVariables false

theorem own : ownKnob Ybaf.prog.godebug = none := by kernel_rfl
theorem laidOut : laidOutB Ybaf.prog = true := by kernel_rfl
theorem stops : Ybaf.pinned.checked.prog.stops = ["fmt.Sprintf"] := by kernel_rfl
theorem stopKnobs : Ybaf.pinned.checked.prog.stopKnobs = [] := by kernel_rfl
theorem quiet (os : Os) : Stop.quiet Ybaf.pinned.checked.prog os := by
  intro k hk
  rw [stopKnobs] at hk
  cases hk
def nameOf : String := Rows.lawS4630ARoundTripRow.named.headD default
theorem gN : Ybaf.prog.globalNamed nameOf = some 0 := by kernel_rfl
theorem gNType : (Ybaf.prog.globals[0]?).map (·.type) = some 69 := by kernel_rfl
theorem cells69 : Ybaf.prog.cellsOf 69 = 64 := by kernel_rfl
theorem cells5 : Ybaf.prog.cellsOf 5 = 1 := by kernel_rfl

theorem tab_of_laid {W : World} (h : laidMet Ybaf.prog Rows.lawS4630ARoundTripRow.laid W) : Tab W := by
  have ht : Lib.TabIs Ybaf.prog W nameOf .u8 (Lib.deBruijn64tab.map fun (n : Nat) => (n : Int)) := Lib.tabIs_of_head gN gNType Ybaf.underlying69 Ybaf.underlying5 cells5 cells69 h
  have hl : Lib.deBruijn64tab.length = 64 := by decide
  intro j hj
  have := ht.cell gN j (by simp [hl]; exact hj)
  rw [this]
  simp [List.getD, hl, hj]

def tabCells : Array Value := (Lib.deBruijn64tab.map fun (n : Nat) => Value.int .u8 (n : Int)).toArray
theorem laid_met (os : Os) (args : Array Value) : laidMet Ybaf.prog Rows.lawS4630ARoundTripRow.laid ((({ World.holding Ybaf.prog os ⟨#[], #[], []⟩ with heap := (World.holding Ybaf.prog os ⟨#[], #[], []⟩).heap.modify 0 fun
      | .cells _ t frozen => .cells tabCells t frozen
      | o => o } : World)).forCall (fun _ _ => 0) ⟨#[], args, []⟩).memory :=
  laidMet_of_run (ps := (List.range 64).map fun j => .cell 0 j) 8 (by kernel_rfl) (by kernel_rfl) (by kernel_rfl)

/-- What the walk is told of a slice of bytes that came in. -/
theorem came8_of {W : World} {a : Option Addr} {len cap : Nat} {zs : List Int} (h : len = 0 ∨ ∃ x, a = some x ∧ len ≤ cap ∧ zs.length = cap ∧ (∀ i, i < zs.length → W.cell? (x.add i) = some (.int .u8 (zs.getD i 0))) ∧ ∀ n ∈ zs, (Lit.int .u8 n).wf = true) :
    ∃ gs : List Nat, gs.length = len ∧ (∀ g ∈ gs, g < 256) ∧ Came8 W a gs := by
  by_cases h0 : len = 0
  · exact ⟨[], by simp [h0], by simp, .inl rfl⟩
  · obtain ⟨x, rfl, hl, hz, hc, hw⟩ := h.resolve_left h0
    have hb : ∀ n ∈ zs, 0 ≤ n ∧ n < 256 := by
      intro n hn
      have := hw n hn
      have := bounds_u8 this
      omega
    obtain ⟨b, o, spot⟩ := x
    have hspot : spot = none := by simpa [Addr.add] using World.cell?_spot (hc 0 (by omega))
    subst hspot
    refine ⟨(zs.take len).map Int.toNat, by simp; omega, ?_, .inr ⟨b, o, rfl, ?_⟩⟩
    · intro g hg
      obtain ⟨n, hn, rfl⟩ := List.mem_map.1 hg
      have := hb n (List.mem_of_mem_take hn)
      omega
    · intro j g hj
      rw [List.getElem?_map] at hj
      obtain ⟨n, hn, rfl⟩ := Option.map_eq_some_iff.1 hj
      have hjl : j < len := by
        have := (List.getElem?_eq_some_iff.1 hn).1
        simp at this; omega
      rw [List.getElem?_take_of_lt hjl] at hn
      have h1 := hc j (by omega)
      have h2 : zs.getD j 0 = n := by simp [List.getD, hn]
      rw [h2] at h1
      have h3 := hb n (List.mem_of_getElem? hn)
      rw [show ((n.toNat : Nat) : Int) = n by omega]
      simpa [Addr.add_lit] using h1

set_option maxHeartbeats 1000000 in
theorem walk_any (U slack : Nat) (gs : List Nat) (a : Option Addr) (cap : Nat) (ts : List Nat) (ta : Option Addr) (tcap : Nat) (w : World) (hU : U < 4294967296) (hsl : slack < 256) (hgs : ∀ g ∈ gs, g < 256) (hc : Came8 w a gs)
    (hts : ∀ g ∈ ts, g < 256) (htc : Came8 w ta ts) (hT : Tab w) (h0 : 0 < w.heap.size) (m1 : gs.length ≤ maxLen) (m2 : ts.length ≤ maxLen) :
    Calls Ybaf.prog 3 #[.int .u32 U, .slice a gs.length cap, .int .u8 slack, .slice ta ts.length tcap] w fun e w' => e = .returned (.bool true) ∧ Below w.heap.size w w' := by
  unfold maxLen at m1 m2
  by_cases hk : gs.length ≤ 1024
  · by_cases htk : ts.length ≤ 1024
    · exact walk_small U slack gs a cap ts ta tcap w hU hsl hgs hk hc hts htk htc hT h0
    · have h1 : decide ((1024 : Int) < (gs.length : Int)) = false := by simp; omega
      have h2 : (1024 : Int) < (ts.length : Int) := by omega
      clear hgs hc hts htc hT
      go_enter Ybaf.func3, Ybaf.ntmps3
      go_wp2
      go_ret
      exact ⟨rfl, Below.refl _ _⟩
  · have h1 : (1024 : Int) < (gs.length : Int) := by omega
    clear hgs hc hts htc hT
    go_enter Ybaf.func3, Ybaf.ntmps3
    go_wp2
    go_ret
    exact ⟨rfl, Below.refl _ _⟩

set_option maxRecDepth 100000 in
theorem lifted (os : Os) (started : os.Started) (H : Type) (enc : TypeId × Value → H) :
    ReturnsInTold none {} Ybaf.checked os 3 .any Input.okWide ((OpenSpec.ofChange Rows.lawS4630ARoundTripSpec).preRow enc Ybaf.prog Ybaf.f3 [] false Rows.lawS4630ARoundTripRow.laid) (fun F => ((OpenSpec.ofChange Rows.lawS4630ARoundTripSpec).at F).post enc Ybaf.prog Ybaf.f3 false true false false) (aloneAtReturn Ybaf.prog) nothingAlways := by
  refine returnsInTold_of_row (C := Ybaf.checked) (s := OpenSpec.ofChange Rows.lawS4630ARoundTripSpec) (by kernel_rfl) own started (by kernel_rfl) Ybaf.func3
    (OpenSpec.witness_stopped_at (enc := enc) (C := Ybaf.checked) false { World.holding Ybaf.prog os ⟨#[], #[], []⟩ with heap := (World.holding Ybaf.prog os ⟨#[], #[], []⟩).heap.modify 0 fun
      | .cells _ t frozen => .cells tabCells t frozen
      | o => o } #[.int .u32 0, .slice none 0 0, .int .u8 0, .slice none 0 0] rfl (by kernel_rfl) (by kernel_rfl) (by kernel_rfl)
      (OpenSpec.preRow_of_B rfl 8 (by kernel_rfl) (by kernel_rfl) (laid_met os _))) ?_
  intro F W base args ds gs before _ hF hval0 hW _ _ _ hL _
  have hval : ∀ (j : Nat) t v, Ybaf.f3.params[j]? = some t → args[j]? = some v → Value.okWide Ybaf.prog W .any base t v := hval0
  have hW' := hW
  obtain ⟨p, q, hA0, hV, rfl, hfz, hnd⟩ := hW
  have hA : DataW.TrodAll enc Ybaf.prog W 0 (fun _ => true) true Ybaf.f3.params.toList args.toList ds p := hA0
  rw [Ybaf.params3] at hA hval
  obtain ⟨v0, vs0, d0, ds0, p0, q0, hargs, rfl, rfl, h0, r0⟩ := trodAll_cons hA
  obtain ⟨v1, vs1, d1, ds1, p1, q1, rfl, rfl, rfl, h1, r1⟩ := trodAll_cons r0
  obtain ⟨v2, vs2, d2, ds2, p2, q2, rfl, rfl, rfl, h2, r2⟩ := trodAll_cons r1
  obtain ⟨v3, vs3, d3, ds3, p3, q3, rfl, rfl, rfl, h3, r3⟩ := trodAll_cons r2
  obtain ⟨rfl, rfl, rfl⟩ := trodAll_nil r3
  obtain rfl : args = #[v0, v1, v2, v3] := by cases args; simp_all
  obtain ⟨rfl, rfl⟩ := trodVars_none hV
  obtain ⟨c0, rfl, rfl, rfl, wc0⟩ := open_int Ybaf.underlying22 (hval 0 22 v0 rfl rfl) h0
  obtain ⟨a1, len1, cap1, rfl⟩ := okWide_slice Ybaf.underlying23 (hval 1 23 v1 rfl rfl)
  obtain ⟨c2, rfl, rfl, rfl, wc2⟩ := open_int Ybaf.underlying5 (hval 2 5 v2 rfl rfl) h2
  obtain ⟨a3, len3, cap3, rfl⟩ := okWide_slice Ybaf.underlying23 (hval 3 23 v3 rfl rfl)
  have k1 := h1
  have k3 := h3
  have lt1 : ∀ x ∈ p1, x.block < W.heap.size := by obtain ⟨m, hm⟩ := k1; exact DataW.trod_lt m _ _ _ hm
  have lt3 : ∀ x ∈ p3, x.block < W.heap.size := by obtain ⟨m, hm⟩ := k3; exact DataW.trod_lt m _ _ _ hm
  have opened : ∀ {a : Option Addr} {len cap : Nat} {d : DataW H} {p : List MemPlace}, DataW.Trod enc Ybaf.prog W 0 (fun _ => true) true 23 (.slice a len cap) d p → ∃ gs : List Nat, gs.length = len ∧ (∀ g ∈ gs, g < 256) ∧ Came8 W a gs ∧ len ≤ maxLen := by
    intro a len cap d p h
    obtain ⟨fuel, hf⟩ := h
    rcases open_ints Ybaf.underlying23 Ybaf.underlying5 (by kernel_rfl) hf with ⟨hcs, _⟩ | ⟨x, l, c, zs, hcs, _, hl, hm, hz, _, hcell, hwz⟩
    · simp [Value.cells] at hcs
      obtain ⟨rfl, rfl, rfl⟩ := hcs
      exact ⟨[], rfl, by simp, .inl rfl, Nat.zero_le _⟩
    · simp [Value.cells] at hcs
      obtain ⟨rfl, rfl, rfl⟩ := hcs
      obtain ⟨gs, e1, e2, e3⟩ := came8_of (W := W) (a := some x) (len := len) (cap := cap) (zs := zs) (.inr ⟨x, rfl, hl, by simpa using hz, hcell, hwz⟩)
      exact ⟨gs, e1, e2, e3, Nat.le_trans hl hm⟩
  obtain ⟨g1, rfl, hg1, hc1, m1⟩ := opened h1
  obtain ⟨g3, rfl, hg3, hc3, m3⟩ := opened h3
  clear hA0 hval0
  have hT : Tab W := tab_of_laid hL
  have hsize : 0 < W.heap.size := by
    have := hT 0 (by decide)
    exact World.block_lt_of_cell? W _ this
  have b0 := bounds_u32 wc0
  have b2 := bounds_u8 wc2
  obtain ⟨U, rfl⟩ : ∃ U : Nat, c0 = (U : Int) := ⟨c0.toNat, by omega⟩
  obtain ⟨slack, rfl⟩ : ∃ U : Nat, c2 = (U : Int) := ⟨c2.toNat, by omega⟩
  refine (walk_any U slack g1 a1 cap1 g3 a3 cap3 W (by omega) (by omega) hg1 hc1 hg3 hc3 hT hsize m1 m3).mono fun e W' ⟨he, bel⟩ => ?_
  subst he
  exact ⟨_, rfl, _, _, _, [], _, [], hW', trodAll_mk1 (shut_bool Ybaf.underlying4 _), (trodAll_cons_mk (shut_int Ybaf.underlying22 wc0) (trodAll_cons_mk (Below.trod laidOut (by kernel_rfl) (of_decide_eq_true (by kernel_rfl)) k1 bel lt1) (trodAll_cons_mk (shut_int Ybaf.underlying5 wc2) (trodAll_cons_mk (Below.trod laidOut (by kernel_rfl) (of_decide_eq_true (by kernel_rfl)) k3 bel lt3) trodAll_mk0)))), rfl, bel.frame _, fun h => by cases h⟩

/-- THE STATEMENT -/
theorem proved : Rows.LawS4630ARoundTripToldSaid :=
  Claim7.holds_of_told_tied_any_at .later 3 Ybaf.f3 "fmt.Sprintf" [] [] _ _ _ _ _ (by kernel_rfl) rfl rfl rfl laidOut (by kernel_rfl) rfl ⟨rfl, rfl, rfl, rfl, rfl, rfl, rfl⟩ rfl rfl (by kernel_rfl) (by kernel_rfl) Ybaf.func3 (by kernel_rfl)
    (of_decide_eq_true (by kernel_rfl)) (of_decide_eq_true (by kernel_rfl)) stops.symm rfl stopKnobs.symm (by kernel_rfl)
    (by kernel_rfl) (by kernel_rfl) (by kernel_rfl) (by kernel_rfl) (by kernel_rfl) (by kernel_rfl) (by kernel_rfl) (by kernel_rfl) (by kernel_rfl) rfl (by kernel_rfl) rfl rfl
    rfl rfl
    rfl (by kernel_rfl) (by kernel_rfl) (by kernel_rfl) (by decide) (by kernel_rfl) lawS4630ARoundTrip_row_tie
    (OpenClaim.moreEntering_of (by kernel_rfl) (by kernel_rfl) (by kernel_rfl) (by kernel_rfl) (by kernel_rfl) (by kernel_rfl) (by kernel_rfl) (by kernel_rfl) (by kernel_rfl) (by kernel_rfl))
    ⟨_, WideRow.started_initial, quiet _⟩
    (fun os started _ H enc _ => lifted os started H enc)
#print axioms proved

end Go.Proofs.YbulkcqwcFmt.lawS4630ARoundTrip

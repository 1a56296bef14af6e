/-
  The contract of zzs4636alink: a well-formed queue built by hand.
-/
import Derived.Test.YbulkcqziRows
import Derived.Test.YbulkcqziLaws
import Derived.WalkSpells
import Derived.Laws.Pointers
import Derived.Laws.ResultCell
import Derived.OpenShut
import Derived.Outline
namespace Go.Proofs.Ybulkcqzi
open Go Go.RowKit
set_option linter.unusedVariables false

theorem Yba.info23 : (Yba.prog.info? 23).map (fun i => (i.zero, i.size, i.bytes)) = some (some (.pointer none), 1, 8) := by kernel_rfl

/-- A slice of numbers: nil, or a row of cells. -/
def IsNums (k : IntKind) (w : World) (a : Option Addr) (len : Nat) (zs : List Int) : Prop :=
  (a = none ∧ len = 0) ∨ ∃ x, a = some x ∧ len ≤ zs.length ∧ (∀ i, i < zs.length → w.cell? (x.add i) = some (.int k (zs.getD i 0))) ∧ ∀ z ∈ zs, (Lit.int k z).wf = true

theorem nums_at {k : IntKind} {w : World} {a : Option Addr} {len : Nat} {zs : List Int} (h : IsNums k w a len zs) (hpos : 0 < len) :
    ∃ b off, a = some ⟨b, off, none⟩ ∧ b < w.heap.size ∧ len ≤ zs.length ∧ (∀ j, j < len → w.cell? ⟨b, off + j, none⟩ = some (.int k (zs.getD j 0))) ∧ ∀ j, j < len → (Lit.int k (zs.getD j 0)).wf = true := by
  rcases h with ⟨_, h0⟩ | ⟨x, rfl, hl, hc, hm⟩
  · omega
  · obtain ⟨b, off, spot⟩ := x
    have hspot : spot = none := by simpa [Addr.add] using World.cell?_spot (hc 0 (by omega))
    subst hspot
    refine ⟨b, off, rfl, World.block_lt_of_cell? w _ (hc 0 (by omega)), hl, fun j hj => ?_, fun j hj => ?_⟩
    · rw [← hc j (by omega), Addr.add_lit]
    · apply hm
      rw [List.getD_eq_getElem?_getD, List.getElem?_eq_getElem (by omega)]
      exact List.getElem_mem _

theorem nums_below {k : IntKind} {w w' : World} {a : Option Addr} {len : Nat} {zs : List Int} (h : IsNums k w a len zs) (hb : Below w.heap.size w w') : IsNums k w' a len zs := by
  rcases h with h | ⟨x, rfl, hl, hc, hw⟩
  · exact .inl h
  · exact .inr ⟨x, rfl, hl, fun i hi => (hb.cell (World.block_lt_of_cell? w _ (hc i hi))).trans (hc i hi), hw⟩

/-- The i-th thread's block. -/
def adr (N i : Nat) : Nat := N + 3 + 2 * i
/-- Its id. -/
def idOf (base : Nat) (zs : List Int) (i : Nat) : Int := ((base : Int) + i) * 256 + zs.getD i 0
/-- The row of pointers. -/
def ptrs (N k : Nat) : List Value := (List.range k).map fun i => Value.pointer (at0 (adr N i))
def headOf (N k : Nat) : Option Addr := if k = 0 then none else at0 (adr N 0)
def tailOf (N k : Nat) : Option Addr := if k = 0 then none else at0 (adr N (k - 1))

theorem ptrs_succ (N k : Nat) : ptrs N (k + 1) = ptrs N k ++ [Value.pointer (at0 (adr N k))] := by simp [ptrs, List.range_succ]
theorem ptrs_length (N k : Nat) : (ptrs N k).length = k := by simp [ptrs]

/-- What the loop of link keeps, after k rounds. -/
structure Lk (w : World) (n base : Nat) (zs : List Int) (wr : World) (k : Nat) : Prop where
  size : wr.heap.size = w.heap.size + 3 + 2 * k
  chain : Chain wr (adr w.heap.size) (idOf base zs) k
  res : wr.heap[w.heap.size]? = some (queue none none 0)
  q : wr.heap[w.heap.size + 1]? = some (queue (headOf w.heap.size k) none 0)
  row : wr.ownsRow (w.heap.size + 2) 23 1 (.slice (some ⟨w.heap.size + 2, 0, none⟩) k n) k (ptrs w.heap.size k)
  below : Below w.heap.size w wr

/-- The loop's start. -/
theorem lk_start {w wm : World} {n base : Nat} {zs : List Int} (hg : ((w.alloc (queue none none 0)).alloc (queue none none 0)).grownBy wm none) (hs : wm.heap.size = w.heap.size + 3)
    (ho : wm.ownsRow (w.heap.size + 2) 23 1 (.slice (some ⟨w.heap.size + 2, 0, none⟩) 0 n) 0 []) : Lk w n base zs wm 0 := by
  refine ⟨by omega, fun i hi => by omega, ?_, ?_, by simpa [ptrs] using ho, ?_⟩
  · rw [hg.block _ (by simp; omega) (by simp), Below.heap_alloc _ _ _ (by simp)]
    exact heap_alloc_new w _
  · rw [hg.block _ (by simp) (by simp)]
    have := heap_alloc_new (w.alloc (queue none none 0)) (queue none none 0)
    simpa [headOf] using this
  · exact (((Below.refl _ w).alloc (Nat.le_refl _) _).alloc (by simp) _).grown hg (by simp; omega) (fun k hk => by cases hk)

theorem step0 {w wr w1 : World} {n base k : Nat} {zs : List Int} (h : Lk w n base zs wr k) (hk : k = 0) {x : Value} {id : Int} (hid : id = idOf base zs k)
    (hg : (((wr.alloc (thr id none)).setCell ⟨w.heap.size + 1, 0, none⟩ (.pointer (at0 (adr w.heap.size k)))).alloc (.cells #[x] 23)).grownBy w1 (some (w.heap.size + 2))) (hs : w1.heap.size = wr.heap.size + 1 + 1)
    (ho : w1.ownsRow (w.heap.size + 2) 23 1 (.slice (some ⟨w.heap.size + 2, 0, none⟩) (k + 1) n) (k + 1) (ptrs w.heap.size k ++ [Value.pointer (at0 (adr w.heap.size k))])) : Lk w n base zs w1 (k + 1) := by
  subst hid hk
  have hsz := h.size
  have hlt : ∀ c, c < wr.heap.size → c ≠ w.heap.size + 1 → c ≠ w.heap.size + 2 → w1.heap[c]? = wr.heap[c]? := fun c hc h1 h2 => by
    rw [hg.block c (by simp; omega) (by simp; omega), Below.heap_alloc _ _ _ (by simp; omega), heap_set_other h1, Below.heap_alloc _ _ _ hc]
  refine ⟨by omega, fun i hi => ?_, ?_, ?_, by simpa [ptrs_succ] using ho, ?_⟩
  · obtain rfl : i = 0 := by omega
    have e : adr w.heap.size 0 = wr.heap.size := by simp [adr]; omega
    rw [e, hg.block _ (by simp; omega) (by simp; omega), Below.heap_alloc _ _ _ (by simp), heap_set_other (by omega)]
    exact heap_alloc_new wr (thr (idOf base zs 0) none)
  · rw [hlt _ (by omega) (by omega) (by omega)]; exact h.res
  · rw [hg.block _ (by simp; omega) (by simp), Below.heap_alloc _ _ _ (by simp; omega)]
    refine queue_set0 (hd := headOf w.heap.size 0) ?_
    rw [Below.heap_alloc _ _ _ (by omega)]
    exact h.q
  · refine (((h.below.alloc (by omega) _).setCell (p := ⟨w.heap.size + 1, 0, none⟩) (by simp) _).alloc (by simp; omega) _).grown hg (by simp; omega) (fun k hk => by simp at hk; omega)

theorem stepS {w wr w1 : World} {n base j k : Nat} {zs : List Int} (h : Lk w n base zs wr k) (hk : k = j + 1) {x : Value} {id : Int} (hid : id = idOf base zs k)
    (hg : (((wr.alloc (thr id none)).setCell ⟨adr w.heap.size j, 9, none⟩ (.pointer (at0 (adr w.heap.size k)))).alloc (.cells #[x] 23)).grownBy w1 (some (w.heap.size + 2))) (hs : w1.heap.size = wr.heap.size + 1 + 1)
    (ho : w1.ownsRow (w.heap.size + 2) 23 1 (.slice (some ⟨w.heap.size + 2, 0, none⟩) (k + 1) n) (k + 1) (ptrs w.heap.size k ++ [Value.pointer (at0 (adr w.heap.size k))])) : Lk w n base zs w1 (k + 1) := by
  subst hid hk
  have hsz := h.size
  have hlt : ∀ c, c < wr.heap.size → c ≠ adr w.heap.size j → c ≠ w.heap.size + 2 → w1.heap[c]? = wr.heap[c]? := fun c hc h1 h2 => by
    rw [hg.block c (by simp; omega) (by simp; omega), Below.heap_alloc _ _ _ (by simp; omega), heap_set_other h1, Below.heap_alloc _ _ _ hc]
  refine ⟨by omega, fun i hi => ?_, ?_, ?_, by simpa [ptrs_succ] using ho, ?_⟩
  · by_cases e : i = j + 1
    · subst e
      have e : adr w.heap.size (j + 1) = wr.heap.size := by simp [adr]; omega
      rw [if_neg (by omega), e, hg.block _ (by simp; omega) (by simp; omega), Below.heap_alloc _ _ _ (by simp), heap_set_other (by simp [adr]; omega)]
      exact heap_alloc_new wr (thr (idOf base zs (j + 1)) none)
    · by_cases e2 : i = j
      · subst e2
        have hc := h.chain i (by omega)
        rw [if_pos (by omega), hg.block _ (by simp [adr]; omega) (by simp [adr]; omega), Below.heap_alloc _ _ _ (by simp [adr]; omega)]
        refine thr_set (nx := if i + 1 < i + 1 then at0 (adr w.heap.size (i + 1)) else none) ?_
        rw [Below.heap_alloc _ _ _ (by simp [adr]; omega)]
        exact hc
      · have hc := h.chain i (by omega)
        rw [if_pos (by omega)] at hc ⊢
        rw [hlt _ (by simp [adr]; omega) (by simp [adr]; omega) (by simp [adr]; omega)]
        exact hc
  · rw [hlt _ (by omega) (by simp [adr]; omega) (by omega)]; exact h.res
  · rw [hlt _ (by omega) (by simp [adr]; omega) (by omega)]
    have := h.q
    simpa [headOf] using this
  · refine (((h.below.alloc (by omega) _).setCell (p := ⟨adr w.heap.size j, 9, none⟩) (by simp [adr]; omega) _).alloc (by simp; omega) _).grown hg (by simp; omega) (fun k hk => by simp at hk; omega)

/-- The row of pointers, behind the round's blocks and store. -/
theorem row_there {w wr : World} {n base k : Nat} {zs : List Int} (h : Lk w n base zs wr k) {c o : Nat} (hc : c ≠ w.heap.size + 2) (u : Value) (o1 o2 : Obj) :
    (((wr.alloc o1).setCell ⟨c, o, none⟩ u).alloc o2).ownsRow (w.heap.size + 2) 23 1 (.slice (some ⟨w.heap.size + 2, 0, none⟩) k n) k (ptrs w.heap.size k) :=
  World.ownsRow.alloc (ownsRow_setCell_other (h.row.alloc o1) (by simp [Value.ownBlock]; omega) u) o2

/-- What link leaves. -/
structure Linked (w : World) (n base : Nat) (zs : List Int) (w' : World) : Prop where
  size : w'.heap.size = w.heap.size + 3 + 2 * n
  chain : Chain w' (adr w.heap.size) (idOf base zs) n
  row : w'.ownsRow (w.heap.size + 2) 23 1 (.slice (some ⟨w.heap.size + 2, 0, none⟩) n n) n (ptrs w.heap.size n)
  below : Below w.heap.size w w'

theorem linked_of {w wr : World} {n base : Nat} {zs : List Int} (h : Lk w n base zs wr n) {u1 u2 v0 v1 v2 : Value} :
    Linked w n base zs (((((wr.setCell ⟨w.heap.size + 1, 1, none⟩ u1).setCell ⟨w.heap.size + 1, 2, none⟩ u2).setCell ⟨w.heap.size, 0, none⟩ v0).setCell ⟨w.heap.size, 1, none⟩ v1).setCell ⟨w.heap.size, 2, none⟩ v2) := by
  have hsz := h.size
  refine ⟨by simpa using hsz, fun i hi => ?_, ?_, ?_⟩
  · have hc := h.chain i hi
    rw [heap_set_other (by simp [adr]; omega), heap_set_other (by simp [adr]; omega), heap_set_other (by simp [adr]; omega), heap_set_other (by simp [adr]; omega), heap_set_other (by simp [adr]; omega)]
    exact hc
  · exact ownsRow_setCell_below (ownsRow_setCell_below (ownsRow_setCell_below (ownsRow_setCell_below (ownsRow_setCell_below h.row (by simp) _) (by simp) _) (by simp) _) (by simp) _) (by simp) _
  · exact ((((h.below.setCell (by simp) _).setCell (by simp) _).setCell (by simp) _).setCell (by simp) _).setCell (by simp) _

set_option maxHeartbeats 2000000 in
set_option maxRecDepth 100000 in
theorem link_any (base n cap : Nat) (a : Option Addr) (zs : List Int) (w : World) (hn : n ≤ 1024) (hb : base ≤ 4096) (h : IsNums .u8 w a n zs) :
    Calls Yba.prog 5 #[.slice a n cap, .int .u64 base] w fun e w' =>
      e = .returned (.tuple #[.agg #[.pointer (headOf w.heap.size n), .pointer (tailOf w.heap.size n), .int .i64 n], .slice (some ⟨w.heap.size + 2, 0, none⟩) n n]) ∧ Linked w n base zs w' := by
  have HN : Hid (IsNums .u8 w a n zs) := h
  clear h
  obtain ⟨i0, hi, hz0, hz1, hz2⟩ := info_parts Yba.info23
  go_enter Yba.func5, Yba.ntmps5
  go_wp2_with (at_make; refine wpList_make_own_sz _ rfl _ _ 26 rfl (w.heap.size + 2) 23 i0 (.pointer none) 1 Yba.underlying26 hi hz0 hz1 _ _ _ n rfl rfl (by omega) ?b2 ?b3 ?b4 ?_)
  case b2 => rw [hz2]; omega
  case b3 => unfold maxLen; omega
  case b4 => simp
  intro wm hown0 hgrow0 hsz0
  have L0 : Hid (Lk w n base zs wm 0) := lk_start hgrow0 (by simpa using hsz0) (by simpa using hown0)
  clear hown0 hgrow0 hsz0
  go_wp2
  go_loopw [7, 8, 9] (fun s7 s8 s9 wr => ∃ k : Nat, k ≤ n ∧ s9 = .int .i64 k ∧ s8 = .pointer (tailOf w.heap.size k) ∧ s7 = .slice (some ⟨w.heap.size + 2, 0, none⟩) k n ∧ Hid (Lk w n base zs wr k)) (fun _ _ i _ => n - (intOf i).toNat)
  case atStart => exact ⟨0, Nat.zero_le _, rfl, rfl, rfl, L0⟩
  case round =>
    obtain ⟨k, hk, rfl, rfl, rfl, L⟩ := hrel
    by_cases hlt : k < n
    · obtain ⟨b, off, rfl, hb', hle, hc, hwf⟩ := nums_at (nums_below HN.out L.out.below) (by omega)
      have g := hc k hlt
      have hw := bounds_u8 (hwf k hlt)
      have HI : Hid (((base : Int) + k) * 256 + zs.getD k 0 = idOf base zs k) := rfl
      clear hc hwf HN L0
      generalize zs.getD k 0 = x at g hw HI
      obtain ⟨q0, q1, q2, f0, f1, f2⟩ := queue_cells L.out.q
      have hsz := L.out.size
      have hlt1 : w.heap.size + 1 < wr.heap.size := by omega
      have q0a : ∀ o, (wr.alloc o).cell? ⟨w.heap.size + 1, 0, none⟩ = some (.pointer (headOf w.heap.size k)) := fun o => (World.cell?_of_block (Below.heap_alloc wr o _ hlt1)).trans q0
      have f0a : ∀ o, (wr.alloc o).frozen? ⟨w.heap.size + 1, 0, none⟩ = false := fun o => (World.frozen?_of_block (Below.heap_alloc wr o _ hlt1)).trans f0
      clear q0 q1 q2 f0 f1 f2
      by_cases hk0 : k = 0
      · have e8 : tailOf w.heap.size k = none := by simp [tailOf, hk0]
        rw [e8]
        have K0 : Hid (k = 0) := hk0
        clear e8 hk0
        go_wp2_with (at_builtin; refine wpList_append_fits_sz _ rfl _ _ 26 rfl (w.heap.size + 2) 23 i0 1 Yba.underlying26 hi hz1 (w.heap.size + 2) k n (ptrs w.heap.size k) rfl ?c0 ⟨w.heap.size + 3 + 2 * k + 1, 0, none⟩ 1 1 [.pointer (some ⟨w.heap.size + 3 + 2 * k, 0, none⟩)] rfl rfl ?c1 ?c2 ?c3 ?_)
        case c0 => exact row_there L.out (by omega) _ _ _
        case c1 =>
          intro jj u hjj
          match jj, hjj with
          | 0, hjj =>
            simp at hjj
            subst hjj
            have := heap_alloc_new ((wr.alloc (thr (((base : Int) + k) * 256 + x) none)).setCell ⟨w.heap.size + 1, 0, none⟩ (.pointer (some ⟨w.heap.size + 3 + 2 * k, 0, none⟩))) (.cells #[.pointer (some ⟨w.heap.size + 3 + 2 * k, 0, none⟩)] 23)
            have e2 : ((wr.alloc (thr (((base : Int) + k) * 256 + x) none)).setCell ⟨w.heap.size + 1, 0, none⟩ (.pointer (some ⟨w.heap.size + 3 + 2 * k, 0, none⟩))).heap.size = w.heap.size + 3 + 2 * k + 1 := by simp; omega
            rw [e2] at this
            simp only [Addr.add_lit, Nat.add_zero]
            exact cell_of_one this
        case c2 => intro u hu; simp at hu; subst hu; rfl
        case c3 => omega
        intro w1 hown1 hgrow1 hs1
        have R : Hid (Lk w n base zs w1 (k + 1)) := step0 L.out K0.out HI.out hgrow1 (by omega) hown1
        clear hown1 hgrow1 hs1 L
        go_wp2
        go_roundw
        case rel => exact ⟨k + 1, by omega, by go_num, rfl, rfl, R⟩
        case measure => simp [intOf]; omega
      · obtain ⟨j, hj⟩ : ∃ j, k = j + 1 := ⟨k - 1, by omega⟩
        have e8 : tailOf w.heap.size k = some ⟨adr w.heap.size j, 0, none⟩ := by subst hj; rfl
        rw [e8]
        have hch := L.out.chain j (by omega)
        obtain ⟨t3, t9, tf⟩ := thr_cells hch
        have K1 : Hid (k = j + 1) := hj
        have hjk : j < k := by omega
        have hadj : adr w.heap.size j < wr.heap.size := by unfold adr; omega
        clear hch e8 hj hk0
        have t9a : ∀ o, (wr.alloc o).cell? ⟨adr w.heap.size j, 9, none⟩ = some (.pointer (if j + 1 < k then at0 (adr w.heap.size (j + 1)) else none)) := fun o => (World.cell?_of_block (Below.heap_alloc wr o _ hadj)).trans t9
        have tfa : ∀ o, (wr.alloc o).frozen? ⟨adr w.heap.size j, 9, none⟩ = false := fun o => (World.frozen?_of_block (Below.heap_alloc wr o _ hadj)).trans tf
        generalize (if j + 1 < k then at0 (adr w.heap.size (j + 1)) else none) = nx at t9a
        clear t3 t9 tf
        go_wp2_with (at_builtin; refine wpList_append_fits_sz _ rfl _ _ 26 rfl (w.heap.size + 2) 23 i0 1 Yba.underlying26 hi hz1 (w.heap.size + 2) k n (ptrs w.heap.size k) rfl ?c0 ⟨w.heap.size + 3 + 2 * k + 1, 0, none⟩ 1 1 [.pointer (some ⟨w.heap.size + 3 + 2 * k, 0, none⟩)] rfl rfl ?c1 ?c2 ?c3 ?_)
        case c0 => exact row_there L.out (by unfold adr; omega) _ _ _
        case c1 =>
          intro jj u hjj
          match jj, hjj with
          | 0, hjj =>
            simp at hjj
            subst hjj
            have := heap_alloc_new ((wr.alloc (thr (((base : Int) + k) * 256 + x) none)).setCell ⟨adr w.heap.size j, 9, none⟩ (.pointer (some ⟨w.heap.size + 3 + 2 * k, 0, none⟩))) (.cells #[.pointer (some ⟨w.heap.size + 3 + 2 * k, 0, none⟩)] 23)
            have e2 : ((wr.alloc (thr (((base : Int) + k) * 256 + x) none)).setCell ⟨adr w.heap.size j, 9, none⟩ (.pointer (some ⟨w.heap.size + 3 + 2 * k, 0, none⟩))).heap.size = w.heap.size + 3 + 2 * k + 1 := by simp; omega
            rw [e2] at this
            simp only [Addr.add_lit, Nat.add_zero]
            exact cell_of_one this
        case c2 => intro u hu; simp at hu; subst hu; rfl
        case c3 => omega
        intro w1 hown1 hgrow1 hs1
        have R : Hid (Lk w n base zs w1 (k + 1)) := stepS L.out K1.out HI.out hgrow1 (by omega) hown1
        clear hown1 hgrow1 hs1 L
        go_wp2
        go_roundw
        case rel => exact ⟨k + 1, by omega, by go_num, rfl, rfl, R⟩
        case measure => simp [intOf]; omega
    · have hke : k = n := by omega
      subst hke
      obtain ⟨q0, q1, q2, f0, f1, f2⟩ := queue_cells L.out.q
      obtain ⟨r0, r1, r2, e0, e1, e2⟩ := queue_cells L.out.res
      clear HN L0
      go_wp2
      refine bodyPost_ret (v := .tuple #[.agg #[.pointer (headOf w.heap.size k), .pointer (tailOf w.heap.size k), .int .i64 k], .slice (some ⟨w.heap.size + 2, 0, none⟩) k k]) (by simp [results, Yba.results5, go_sem, r0, r1, r2]) rfl ⟨rfl, ?_⟩
      exact linked_of L.out
end Go.Proofs.Ybulkcqzi

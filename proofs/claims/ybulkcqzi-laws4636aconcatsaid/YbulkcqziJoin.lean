/-
  Both queues in memory, ahead of pushAll and behind it.
-/
import Derived.Test.YbulkcqziPush
import Derived.LaidEql
namespace Go.Proofs.Ybulkcqzi
open Go Go.RowKit
set_option linter.unusedVariables false

/-- A pointer against itself. -/
theorem neq_same (a : Addr) (w : World) : (binOp .neq 23 (.pointer (some a)) (.pointer (some a))).run Yba.prog w = .ok (.bool false) w := by
  have hu := run_underlying (P := Yba.prog) Yba.underlying23
  have h : ∀ d, (Op.equalIn (d + 1) 23 (.pointer (some a)) (.pointer (some a))).run Yba.prog w = .ok true w := fun d => by
    simp [Op.equalIn, hu, run_sameAddr_same]
  simp only [binOp]
  simp [Op.equal, Op.maxDepth, h 9999]

/-- The i-th thread of both, and its id. -/
def P (N n i : Nat) : Nat := if i < n then adr N i else adr (N + 4 + 2 * n) (i - n)
def ids (n : Nat) (za zb : List Int) (i : Nat) : Int := if i < n then idOf 0 za i else idOf 4096 zb (i - n)

structure Rows3 (w : World) (N n m : Nat) : Prop where
  r1 : w.ownsRow (N + 2) 23 1 (.slice (some ⟨N + 2, 0, none⟩) n n) n (ptrs N n)
  r2 : w.ownsRow (N + 4 + 2 * n + 2) 23 1 (.slice (some ⟨N + 4 + 2 * n + 2, 0, none⟩) m m) m (ptrs (N + 4 + 2 * n) m)
  re : w.ownsRow (N + 7 + 2 * n + 2 * m + 1) 23 1 (.slice (some ⟨N + 7 + 2 * n + 2 * m + 1, 0, none⟩) (n + m) (n + m)) (n + m) (ptrs N n ++ ptrs (N + 4 + 2 * n) m)

structure Ready (w : World) (N n m : Nat) (za zb : List Int) : Prop where
  ch1 : Chain w (adr N) (idOf 0 za) n
  ch2 : Chain w (adr (N + 4 + 2 * n)) (idOf 4096 zb) m
  q : w.heap[N + 3 + 2 * n]? = some (queue (headOf N n) (tailOf N n) n)
  f : w.heap[N + 7 + 2 * n + 2 * m]? = some (queue (headOf (N + 4 + 2 * n) m) (tailOf (N + 4 + 2 * n) m) m)
  rows : Rows3 w N n m

structure Joined (w : World) (N n m : Nat) (za zb : List Int) : Prop where
  q : w.heap[N + 3 + 2 * n]? = some (queue (if n + m = 0 then none else at0 (P N n 0)) (if n + m = 0 then none else at0 (P N n (n + m - 1))) ((n : Int) + m))
  f : w.heap[N + 7 + 2 * n + 2 * m]? = some (queue none none 0)
  ch : Chain w (P N n) (ids n za zb) (n + m)
  rows : Rows3 w N n m

theorem Rows3.same {w w' : World} {N n m : Nat} {T : Nat → Prop} (h : Rows3 w N n m) (hs : Same w w' T) (h1 : ¬ T (N + 2)) (h2 : ¬ T (N + 4 + 2 * n + 2)) (h3 : ¬ T (N + 7 + 2 * n + 2 * m + 1)) : Rows3 w' N n m := by
  have go : ∀ {B g l : Nat} {xs : List Value}, ¬ T g → w.ownsRow B 23 1 (.slice (some ⟨g, 0, none⟩) l l) l xs → w'.ownsRow B 23 1 (.slice (some ⟨g, 0, none⟩) l l) l xs := by
    intro B g l xs hT ho
    refine ⟨ho.1, ?_⟩
    rcases ho.2 with hn | ⟨g', cap, cur, e, hb, hg, r⟩
    · exact .inl hn
    · have e' : g' = g := by simp at e; omega
      subst e'
      exact .inr ⟨g', cap, cur, e, hb, (hs.block _ hT).trans hg, r⟩
  exact ⟨go h1 h.r1, go h2 h.r2, go h3 h.re⟩

theorem join_none {w : World} {N n : Nat} {za zb : List Int} (h : Ready w N n 0 za zb) : Joined w N n 0 za zb := by
  refine ⟨?_, ?_, ?_, h.rows⟩
  · have hq := h.q
    by_cases e : n = 0
    · subst e; simpa [headOf, tailOf] using hq
    · have h1 : P N n 0 = adr N 0 := by simp [P]; omega
      have h2 : P N n (n + 0 - 1) = adr N (n - 1) := by simp [P]; omega
      rw [hq, if_neg (by omega), if_neg (by omega), h1, h2]
      simp [headOf, tailOf, e]
  · have hf := h.f
    simpa [headOf, tailOf] using hf
  · intro i hi
    have hc := h.ch1 i (by omega)
    have h1 : P N n i = adr N i := by simp [P]; omega
    have h3 : ids n za zb i = idOf 0 za i := by simp [ids]; omega
    rw [h1, hc, h3]
    by_cases e : i + 1 < n
    · have h2 : P N n (i + 1) = adr N (i + 1) := by simp [P]; omega
      rw [if_pos e, if_pos (by omega), h2]
    · rw [if_neg e, if_neg (by omega)]

theorem join_first {w w' : World} {N m : Nat} {za zb : List Int} (h : Ready w N 0 m za zb) (hm : 0 < m)
    (he : FirstEnd w (N + 3 + 2 * 0) (N + 7 + 2 * 0 + 2 * m) ⟨adr (N + 4 + 2 * 0) 0, 0, none⟩ (tailOf (N + 4 + 2 * 0) m) (((0 : Nat) : Int) + m) w') : Joined w' N 0 m za zb := by
  obtain ⟨hq, hf, hs⟩ := he
  refine ⟨?_, hf, ?_, h.rows.same hs (by omega) (by omega) (by omega)⟩
  · rw [hq, if_neg (by omega), if_neg (by omega)]
    have h2 : P N 0 (0 + m - 1) = adr (N + 4 + 2 * 0) (m - 1) := by simp [P]
    have h1 : P N 0 0 = adr (N + 4 + 2 * 0) 0 := by simp [P]
    rw [h1, h2]
    have h3 : tailOf (N + 4 + 2 * 0) m = at0 (adr (N + 4 + 2 * 0) (m - 1)) := by rw [tailOf, if_neg (by omega)]
    rw [h3]
    rfl
  · intro i hi
    have hc := h.ch2 i (by omega)
    have h1 : P N 0 i = adr (N + 4 + 2 * 0) i := by simp [P]
    have h2 : P N 0 (i + 1) = adr (N + 4 + 2 * 0) (i + 1) := by simp [P]
    have h3 : ids 0 za zb i = idOf 4096 zb i := by simp [ids]
    rw [h1, h3, h2, hs.block _ (by simp [adr]; omega), hc]
    by_cases e : i + 1 < m
    · rw [if_pos e, if_pos (by omega)]
    · rw [if_neg e, if_neg (by omega)]

theorem join_second {w w' : World} {N n m : Nat} {za zb : List Int} (h : Ready w N n m za zb) (hn : 0 < n) (hm : 0 < m)
    (he : SecondEnd w (N + 3 + 2 * n) (N + 7 + 2 * n + 2 * m) (adr N (n - 1)) (headOf N n) (idOf 0 za (n - 1)) ⟨adr (N + 4 + 2 * n) 0, 0, none⟩ (tailOf (N + 4 + 2 * n) m) ((n : Int) + m) w') : Joined w' N n m za zb := by
  obtain ⟨hq, hf, ht, hs⟩ := he
  refine ⟨?_, hf, ?_, h.rows.same hs (by simp [adr]; omega) (by simp [adr]; omega) (by simp [adr]; omega)⟩
  · rw [hq, if_neg (by omega), if_neg (by omega)]
    have h1 : P N n 0 = adr N 0 := by simp [P]; omega
    have h2 : P N n (n + m - 1) = adr (N + 4 + 2 * n) (m - 1) := by
      unfold P
      rw [if_neg (by omega)]
      congr 1
      omega
    have h3 : tailOf (N + 4 + 2 * n) m = at0 (adr (N + 4 + 2 * n) (m - 1)) := by rw [tailOf, if_neg (by omega)]
    have h4 : headOf N n = at0 (adr N 0) := by rw [headOf, if_neg (by omega)]
    rw [h1, h2, h3, h4]
  · intro i hi
    by_cases e : i < n
    · have h1 : P N n i = adr N i := by simp [P]; omega
      have h3 : ids n za zb i = idOf 0 za i := by simp [ids]; omega
      rw [h1, h3, if_pos (by omega)]
      by_cases e2 : i = n - 1
      · subst e2
        have h2 : P N n (n - 1 + 1) = adr (N + 4 + 2 * n) 0 := by
          unfold P
          rw [if_neg (by omega)]
          congr 1
          omega
        rw [ht, h2]
        rfl
      · have hc := h.ch1 i (by omega)
        have h2 : P N n (i + 1) = adr N (i + 1) := by simp [P]; omega
        rw [hs.block _ (by simp [adr]; omega), hc, if_pos (by omega), h2]
    · have h1 : P N n i = adr (N + 4 + 2 * n) (i - n) := by simp [P]; omega
      have h3 : ids n za zb i = idOf 4096 zb (i - n) := by simp [ids]; omega
      have hc := h.ch2 (i - n) (by omega)
      rw [h1, h3, hs.block _ (by simp [adr]; omega), hc]
      by_cases e2 : i - n + 1 < m
      · have h2 : P N n (i + 1) = adr (N + 4 + 2 * n) (i - n + 1) := by
          unfold P
          rw [if_neg (by omega)]
          congr 1
          omega
        rw [if_pos e2, if_pos (by omega), h2]
      · rw [if_neg e2, if_neg (by omega)]

/-- pushAll, whatever the two queues hold. -/
theorem push_any (w : World) (N n m : Nat) (za zb : List Int) (hn : n ≤ 1024) (hm : m ≤ 1024) (h : Ready w N n m za zb) :
    Calls Yba.prog 6 #[.pointer (some ⟨N + 3 + 2 * n, 0, none⟩), .pointer (some ⟨N + 7 + 2 * n + 2 * m, 0, none⟩)] w fun e w' => e = .returned (.tuple #[]) ∧ Joined w' N n m za zb ∧ Same w w' (fun c => N ≤ c) := by
  rcases m with _ | m'
  · have hf := h.f
    refine (push_none _ _ _ _ w (by simpa [headOf] using hf)).mono ?_
    rintro e w' ⟨rfl, rfl⟩
    exact ⟨rfl, join_none h, Same.refl _ _⟩
  · have hf : w.heap[N + 7 + 2 * n + 2 * (m' + 1)]? = some (queue (some ⟨adr (N + 4 + 2 * n) 0, 0, none⟩) (tailOf (N + 4 + 2 * n) (m' + 1)) ((m' + 1 : Nat) : Int)) := by
      have := h.f
      rw [headOf, if_neg (by omega)] at this
      exact this
    rcases n with _ | n'
    · have hq : w.heap[N + 3 + 2 * 0]? = some (queue none none ((0 : Nat) : Int)) := by
        have := h.q
        rw [headOf, tailOf, if_pos rfl] at this
        exact this
      refine (push_first _ _ (by omega) none ((0 : Nat) : Int) ((m' + 1 : Nat) : Int) ⟨adr (N + 4 + 2 * 0) 0, 0, none⟩ (tailOf (N + 4 + 2 * 0) (m' + 1)) (by omega) (by omega) (by omega) (by omega) w hq hf).mono ?_
      rintro e w' ⟨rfl, he⟩
      refine ⟨rfl, join_first h (by omega) he, ?_⟩
      obtain ⟨_, _, hs⟩ := he
      exact ⟨hs.os, hs.tape, hs.output, hs.size, fun c hc => hs.block c (by omega)⟩
    · have hq : w.heap[N + 3 + 2 * (n' + 1)]? = some (queue (headOf N (n' + 1)) (some ⟨adr N n', 0, none⟩) ((n' + 1 : Nat) : Int)) := by
        have := h.q
        rw [tailOf, if_neg (by omega)] at this
        exact this
      have ht : w.heap[adr N n']? = some (thr (idOf 0 za n') none) := by
        have := h.ch1 n' (by omega)
        rw [if_neg (by omega)] at this
        exact this
      refine (push_second _ _ (adr N n') (by omega) (by simp [adr]; omega) (by simp [adr]; omega) (headOf N (n' + 1)) ((n' + 1 : Nat) : Int) ((m' + 1 : Nat) : Int) (idOf 0 za n') ⟨adr (N + 4 + 2 * (n' + 1)) 0, 0, none⟩ (tailOf (N + 4 + 2 * (n' + 1)) (m' + 1)) (by omega) (by omega) (by omega) (by omega) w hq hf ht).mono ?_
      rintro e w' ⟨rfl, he⟩
      refine ⟨rfl, join_second h (by omega) (by omega) he, ?_⟩
      obtain ⟨_, _, _, hs⟩ := he
      exact ⟨hs.os, hs.tape, hs.output, hs.size, fun c hc => hs.block c (by simp [adr]; omega)⟩

/-- What link leaves, its first block by a name. -/
structure LinkedAt (w : World) (N n base : Nat) (zs : List Int) (w' : World) : Prop where
  size : w'.heap.size = N + 3 + 2 * n
  chain : Chain w' (adr N) (idOf base zs) n
  row : w'.ownsRow (N + 2) 23 1 (.slice (some ⟨N + 2, 0, none⟩) n n) n (ptrs N n)
  below : Below N w w'

theorem link_0 (n cap : Nat) (a : Option Addr) (zs : List Int) (w : World) (hn : n ≤ 1024) (h : IsNums .u8 w a n zs) (N : Nat) (hN : w.heap.size = N) :
    Calls Yba.prog 5 #[.slice a n cap, .int .u64 0] w fun e w' =>
      e = .returned (.tuple #[.agg #[.pointer (headOf N n), .pointer (tailOf N n), .int .i64 n], .slice (some ⟨N + 2, 0, none⟩) n n]) ∧ LinkedAt w N n 0 zs w' := by
  subst hN
  refine (link_any 0 n cap a zs w hn (by omega) h).mono ?_
  rintro e w' ⟨rfl, L⟩
  exact ⟨rfl, L.size, L.chain, L.row, L.below⟩

theorem link_4096 (n cap : Nat) (a : Option Addr) (zs : List Int) (w : World) (hn : n ≤ 1024) (h : IsNums .u8 w a n zs) (N : Nat) (hN : w.heap.size = N) :
    Calls Yba.prog 5 #[.slice a n cap, .int .u64 4096] w fun e w' =>
      e = .returned (.tuple #[.agg #[.pointer (headOf N n), .pointer (tailOf N n), .int .i64 n], .slice (some ⟨N + 2, 0, none⟩) n n]) ∧ LinkedAt w N n 4096 zs w' := by
  subst hN
  refine (link_any 4096 n cap a zs w hn (by omega) h).mono ?_
  rintro e w' ⟨rfl, L⟩
  exact ⟨rfl, L.size, L.chain, L.row, L.below⟩

theorem ptrs_one (N n : Nat) : ∀ u ∈ ptrs N n, u.oneCell' = true := by
  intro u hu
  obtain ⟨_, _, rfl⟩ := List.mem_map.1 hu
  rfl

theorem chain_kept {w w' : World} {ad : Nat → Nat} {ids : Nat → Int} {cnt : Nat} (h : Chain w ad ids cnt) (hk : ∀ i, i < cnt → w'.heap[ad i]? = w.heap[ad i]?) : Chain w' ad ids cnt :=
  fun i hi => (hk i hi).trans (h i hi)

theorem row_kept {w w' : World} {B g l c : Nat} {xs : List Value} (h : w.ownsRow B 23 1 (.slice (some ⟨g, 0, none⟩) l c) l xs) (hk : w'.heap[g]? = w.heap[g]?) : w'.ownsRow B 23 1 (.slice (some ⟨g, 0, none⟩) l c) l xs := by
  refine ⟨h.1, ?_⟩
  rcases h.2 with hn | ⟨g', cap, cur, e, hb, hg, r⟩
  · exact .inl hn
  · have e' : g' = g := by simp at e; omega
    subst e'
    exact .inr ⟨g', cap, cur, e, hb, hk.trans hg, r⟩

theorem row_cells {w : World} {B g l c : Nat} {xs : List Value} (h : w.ownsRow B 23 1 (.slice (some ⟨g, 0, none⟩) l c) l xs) : ∀ j u, xs[j]? = some u → w.cell? ((⟨g, 0, none⟩ : Addr).add j) = some u := h.cells rfl

theorem rows_at {w w1 w2 w3 : World} {N n m : Nat} {za zb : List Int} (L1 : LinkedAt w N n 0 za w1)
    (L2 : LinkedAt (w1.alloc (queue (headOf N n) (tailOf N n) n)) (N + 4 + 2 * n) m 4096 zb w2)
    (h3 : (w2.alloc (queue (headOf (N + 4 + 2 * n) m) (tailOf (N + 4 + 2 * n) m) m)).grownBy w3 none) :
    w3.ownsRow (N + 2) 23 1 (.slice (some ⟨N + 2, 0, none⟩) n n) n (ptrs N n) ∧ w3.ownsRow (N + 4 + 2 * n + 2) 23 1 (.slice (some ⟨N + 4 + 2 * n + 2, 0, none⟩) m m) m (ptrs (N + 4 + 2 * n) m) := by
  have s1 := L1.size
  have s2 := L2.size
  have k2 : ∀ c, c < w2.heap.size → w3.heap[c]? = w2.heap[c]? := fun c hc => by rw [h3.block c (by simp; omega) (by simp), Below.heap_alloc _ _ _ hc]
  refine ⟨row_kept L1.row ?_, row_kept L2.row (k2 _ (by omega))⟩
  rw [k2 _ (by omega), L2.below.block _ (by omega), Below.heap_alloc _ _ _ (by omega)]

/-- From the two links, the two queues' blocks, the made slice and the two appends to what pushAll meets. -/
theorem ready_of {w w1 w2 w3 w4 w5 : World} {N n m : Nat} {za zb : List Int} (hN : w.heap.size = N) (L1 : LinkedAt w N n 0 za w1)
    (L2 : LinkedAt (w1.alloc (queue (headOf N n) (tailOf N n) n)) (N + 4 + 2 * n) m 4096 zb w2)
    (h3 : (w2.alloc (queue (headOf (N + 4 + 2 * n) m) (tailOf (N + 4 + 2 * n) m) m)).grownBy w3 none) (h4 : w3.grownBy w4 (some (N + 7 + 2 * n + 2 * m + 1))) (h5 : w4.grownBy w5 (some (N + 7 + 2 * n + 2 * m + 1)))
    (re : w5.ownsRow (N + 7 + 2 * n + 2 * m + 1) 23 1 (.slice (some ⟨N + 7 + 2 * n + 2 * m + 1, 0, none⟩) (n + m) (n + m)) (n + m) (ptrs N n ++ ptrs (N + 4 + 2 * n) m)) :
    Ready w5 N n m za zb ∧ Below N w w5 := by
  have s1 := L1.size
  have s2 := L2.size
  have s3 := h3.size
  have s4 := h4.size
  have s5 := h5.size
  simp at s3
  have k5 : ∀ c, c ≤ w2.heap.size → w5.heap[c]? = (w2.alloc (queue (headOf (N + 4 + 2 * n) m) (tailOf (N + 4 + 2 * n) m) m)).heap[c]? := fun c hc => by
    rw [h5.block c (by omega) (by simp; omega), h4.block c (by omega) (by simp; omega), h3.block c (by simp; omega) (by simp)]
  have k2 : ∀ c, c < w2.heap.size → w5.heap[c]? = w2.heap[c]? := fun c hc => by rw [k5 c (by omega), Below.heap_alloc _ _ _ hc]
  have k1 : ∀ c, c < N + 4 + 2 * n → w5.heap[c]? = (w1.alloc (queue (headOf N n) (tailOf N n) n)).heap[c]? := fun c hc => by rw [k2 c (by omega), L2.below.block c hc]
  have k0 : ∀ c, c < w1.heap.size → w5.heap[c]? = w1.heap[c]? := fun c hc => by rw [k1 c (by omega), Below.heap_alloc _ _ _ hc]
  refine ⟨⟨chain_kept L1.chain (fun i hi => k0 _ (by simp [adr]; omega)), chain_kept L2.chain (fun i hi => k2 _ (by simp [adr]; omega)), ?_, ?_, row_kept L1.row (k0 _ (by omega)), row_kept L2.row (k2 _ (by omega)), re⟩, ?_⟩
  · rw [k1 _ (by omega), ← s1]
    exact heap_alloc_new w1 _
  · have e : N + 7 + 2 * n + 2 * m = w2.heap.size := by omega
    rw [k5 _ (by omega), e]
    exact heap_alloc_new w2 _
  · refine ⟨?_, ?_, ?_, by omega, fun c hc => ?_⟩
    · rw [h5.os, h4.os, h3.os]; exact L2.below.os.trans L1.below.os
    · rw [h5.tape, h4.tape, h3.tape]; exact L2.below.tape.trans L1.below.tape
    · rw [h5.output, h4.output, h3.output]; exact L2.below.output.trans L1.below.output
    · rw [k0 c (by omega)]; exact L1.below.block c hc

/-- The row of both, cell by cell; the chain, cell by cell. -/
theorem both_at (N n m k : Nat) (hk : k < n + m) : (ptrs N n ++ ptrs (N + 4 + 2 * n) m)[k]? = some (.pointer (some ⟨P N n k, 0, none⟩)) := by
  by_cases h : k < n
  · rw [List.getElem?_append_left (by rw [ptrs_length]; exact h)]
    simp [ptrs, h, P, at0]
  · rw [List.getElem?_append_right (by rw [ptrs_length]; omega), ptrs_length]
    have h2 : k - n < m := by omega
    simp [ptrs, h, h2, P, at0]

theorem joined_row {w : World} {N n m : Nat} {za zb : List Int} (h : Joined w N n m za zb) {k : Nat} (hk : k < n + m) :
    w.cell? ⟨N + 7 + 2 * n + 2 * m + 1, k, none⟩ = some (.pointer (some ⟨P N n k, 0, none⟩)) := by
  rw [h.rows.re.cellAt k (by omega)]
  exact both_at N n m k hk

theorem joined_next {w : World} {N n m : Nat} {za zb : List Int} (h : Joined w N n m za zb) {k : Nat} (hk : k < n + m) :
    w.cell? ⟨P N n k, 9, none⟩ = some (.pointer (if k + 1 < n + m then some ⟨P N n (k + 1), 0, none⟩ else none)) := (thr_cells (h.ch k hk)).2.1

theorem joined_qs {w : World} {N n m : Nat} {za zb : List Int} (h : Joined w N n m za zb) {k : Nat} (hk : k < n) :
    w.cell? ⟨N + 2, k, none⟩ = some (.pointer (some ⟨adr N k, 0, none⟩)) ∧ w.cell? ⟨adr N k, 3, none⟩ = some (.int .u64 ((k : Int) * 256 + za.getD k 0)) := by
  refine ⟨?_, ?_⟩
  · rw [h.rows.r1.cellAt k (by omega)]
    simp [ptrs, hk, at0]
  · have h1 := (thr_cells (h.ch k (by omega))).1
    have e1 : P N n k = adr N k := by simp [P, hk]
    have e2 : ids n za zb k = (k : Int) * 256 + za.getD k 0 := by
      simp only [ids, hk, if_true, idOf]
      omega
    rw [e1, e2] at h1
    exact h1

theorem joined_fs {w : World} {N n m : Nat} {za zb : List Int} (h : Joined w N n m za zb) {k : Nat} (hk : k < m) :
    w.cell? ⟨N + 4 + 2 * n + 2, k, none⟩ = some (.pointer (some ⟨adr (N + 4 + 2 * n) k, 0, none⟩)) ∧ w.cell? ⟨adr (N + 4 + 2 * n) k, 3, none⟩ = some (.int .u64 ((4096 + (k : Int)) * 256 + zb.getD k 0)) := by
  refine ⟨?_, ?_⟩
  · rw [h.rows.r2.cellAt k (by omega)]
    simp [ptrs, hk, at0]
  · have h1 := (thr_cells (h.ch (n + k) (by omega))).1
    have e0 : n + k - n = k := by omega
    have e1 : P N n (n + k) = adr (N + 4 + 2 * n) k := by simp only [P, if_neg (show ¬ n + k < n by omega), e0]
    have e2 : ids n za zb (n + k) = (4096 + (k : Int)) * 256 + zb.getD k 0 := by
      simp only [ids, if_neg (show ¬ n + k < n by omega), e0, idOf]
      rfl
    rw [e1, e2] at h1
    exact h1
end Go.Proofs.Ybulkcqzi

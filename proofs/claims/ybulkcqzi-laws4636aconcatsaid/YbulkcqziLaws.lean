/-
  Laws of no program, for this seat's walk: make and append-within-capacity with the heap's exact size; a chain of light threads in memory.
-/
import Derived.WalkKit
import Derived.Deep.Draws
namespace Go.Proofs.Ybulkcqzi
open Go Go.RowKit

theorem wpList_make_own_sz {P : Program} (w : World) {ops : Array Oper} {rest : List Oper} {o : Oper} {a : Act} {Q : Exit → Act → World → Prop}
    (hg : o.guard = none) (l c : Operand) (t : TypeId) (hop : o.op = Op.makeSlice t l c)
    (base : Nat) (e : TypeId) (i : TypeInfo) (z : Value) (size : Nat) (h1 : P.underlying t = some (.slice e)) (h2 : P.info? e = some i) (h3 : i.zero = some z) (h4 : i.size = size)
    (kl kc : IntKind) (C : Int) (n : Nat) (hl : a.eval l = .int kl 0) (hc : a.eval c = .int kc C) (hC : C = (n : Int)) (b2 : i.bytes * n ≤ 281474976710656) (b3 : n ≤ maxLen) (b4 : base ≤ w.heap.size)
    (hK : ∀ w', w'.ownsRow base e size (.slice (some ⟨w.heap.size, 0, none⟩) 0 n) 0 [] → w.grownBy w' none → w'.heap.size = w.heap.size + 1 → wpList P ops Q rest (a.put o.dst (.slice (some ⟨w.heap.size, 0, none⟩) 0 n)) w') :
    wpList P ops Q (o :: rest) a w := by
  refine wpList_plain hg fun K hK' => ?_
  have h63' : (n : Int) ≤ 9223372036854775807 := by
    have h := b3
    simp [maxLen] at h
    omega
  have hb' : (i.bytes : Int) * (n : Int) ≤ 281474976710656 := by
    have h : ((i.bytes * n : Nat) : Int) ≤ 281474976710656 := by omega
    rwa [Int.natCast_mul] at h
  have hr := run_make (P := P) w t e i z h1 h2 h3 kl kc 0 n (Int.le_refl _) (by omega) hb' h63'
  simp only [Int.toNat_zero, Int.toNat_natCast] at hr
  subst h4
  subst hC
  unfold Oper.wp
  simp [execOp, hop, hl, hc, hr, Result.andThen]
  exact hK' _ _ (hK _ (World.ownsRow_made w _ n b4 b3 (size_madeCells _ _)) (World.grownBy_alloc w _ none) (by simp))

theorem wpList_append_fits_sz {P : Program} (w : World) {ops : Array Oper} {rest : List Oper} {o : Oper} {a : Act} {Q : Exit → Act → World → Prop}
    (hg : o.guard = none) (s x : Operand) (t : TypeId) (hop : o.op = Op.call { callee := Callee.builtin Builtin.append, args := #[s, x], argTypes := #[t, t] })
    (base : Nat) (e : TypeId) (i : TypeInfo) (size : Nat) (h1 : P.underlying t = some (.slice e)) (h2 : P.info? e = some i) (h4 : i.size = size)
    (g k cap : Nat) (xs : List Value) (hs : a.eval s = .slice (some ⟨g, 0, none⟩) k cap) (hown : w.ownsRow base e size (.slice (some ⟨g, 0, none⟩) k cap) k xs) (ad : Addr) (m c : Nat) (news : List Value) (hx : a.eval x = .slice (some ad) m c) (hn : news.length = m * size)
    (hc : ∀ j u, news[j]? = some u → w.cell? (ad.add j) = some u) (h1c : ∀ u ∈ news, u.oneCell' = true) (b1 : k + m ≤ cap)
    (hK : ∀ w', w'.ownsRow base e size (.slice (some ⟨g, 0, none⟩) (k + m) cap) (k + m) (xs ++ news) → w.grownBy w' (some g) → w'.heap.size = w.heap.size → wpList P ops Q rest (a.put o.dst (.slice (some ⟨g, 0, none⟩) (k + m) cap)) w') :
    wpList P ops Q (o :: rest) a w := by
  refine wpList_plain hg fun K hK' => ?_
  subst h4
  have hlen : (xs ++ news).length = (k + m) * i.size := by rw [List.length_append, hown.1, hn, Nat.add_mul]
  rcases hown.2 with ⟨h, _⟩ | ⟨g', cap', cur, h, hbg, hgg, hnc, hcm, hcs, htake⟩
  · simp at h
  · simp only [Value.slice.injEq, Option.some.injEq, Addr.mk.injEq, and_true, true_and] at h
    obtain ⟨rfl, rfl⟩ := h
    have hfit : k * i.size + news.length ≤ cur.size := by rw [hn, hcs, ← Nat.add_mul]; exact Nat.mul_le_mul_right _ b1
    have hr := run_append_room (P := P) w t o.type e i h1 h2 g k cap cur hgg ad m c news hn hc h1c b1 hfit
    unfold Oper.wp
    simp [execOp, hop, resolve, invoke, builtin, hs, hx, hr, Result.andThen]
    have e1 : cur.toList.take (k * i.size) ++ (news ++ cur.toList.drop (k * i.size + news.length)) = cur.toList.take (k * i.size) ++ news ++ cur.toList.drop (k * i.size + news.length) := by rw [List.append_assoc]
    refine hK' _ _ (hK _ ⟨hlen, .inr ⟨g, cap, _, rfl, hbg, setRow_heap w g cur _ e _ hgg, b1, hcm, ?_, ?_⟩⟩ ⟨rfl, rfl, rfl, by simp, fun k _ hk => setRow_other w g k _ (fun e => hk (by simp [e]))⟩ (by simp [World.setRow]))
    · simp only [List.size_toArray, List.length_append, List.length_take, List.length_drop, Array.length_toList]
      omega
    · simp only [htake]
      rw [← List.append_assoc, ← hlen]
      exact List.take_left

/-- A light thread in memory, and a queue. -/
def thr (id : Int) (next : Option Addr) : Obj := .cells #[.nilIface, .pointer none, .nilFunc, .int .u64 id, .chan none, .int .u32 0, .int .i32 0, .int .i64 0, .pointer none, .pointer next] 51 (0, 0)
def queue (hd tl : Option Addr) (n : Int) : Obj := .cells #[.pointer hd, .pointer tl, .int .i64 n] 25 (0, 0)

/-- The block's head, as a pointer. -/
def at0 (b : Nat) : Option Addr := some ⟨b, 0, none⟩

/-- cnt threads, the i-th at block 'ad i', linked in order, the last to nil. -/
def Chain (w : World) (ad : Nat → Nat) (ids : Nat → Int) (cnt : Nat) : Prop :=
  ∀ i, i < cnt → w.heap[ad i]? = some (thr (ids i) (if i + 1 < cnt then at0 (ad (i + 1)) else none))

theorem thr_cells {w : World} {b : Nat} {id : Int} {nx : Option Addr} (h : w.heap[b]? = some (thr id nx)) :
    w.cell? ⟨b, 3, none⟩ = some (.int .u64 id) ∧ w.cell? ⟨b, 9, none⟩ = some (.pointer nx) ∧ w.frozen? ⟨b, 9, none⟩ = false := by
  simp [World.cell?, World.frozen?, h, thr]

theorem queue_cells {w : World} {b : Nat} {hd tl : Option Addr} {n : Int} (h : w.heap[b]? = some (queue hd tl n)) :
    w.cell? ⟨b, 0, none⟩ = some (.pointer hd) ∧ w.cell? ⟨b, 1, none⟩ = some (.pointer tl) ∧ w.cell? ⟨b, 2, none⟩ = some (.int .i64 n) ∧
    w.frozen? ⟨b, 0, none⟩ = false ∧ w.frozen? ⟨b, 1, none⟩ = false ∧ w.frozen? ⟨b, 2, none⟩ = false := by
  simp [World.cell?, World.frozen?, h, queue]

theorem heap_set {w : World} {b o : Nat} {cs : Array Value} {t : TypeId} {u : Value} (h : w.heap[b]? = some (.cells cs t (0, 0))) :
    (w.setCell ⟨b, o, none⟩ u).heap[b]? = some (.cells (cs.setIfInBounds o u) t (0, 0)) := by
  have hlt := lt_of_block h
  have h' : w.heap[b] = .cells cs t (0, 0) := by simpa [Array.getElem?_eq_getElem hlt] using h
  show (w.heap.modify b _)[b]? = _
  rw [Array.getElem?_eq_getElem (by simpa using hlt), Array.getElem_modify_self, h']
  rfl

theorem thr_set {w : World} {b : Nat} {id : Int} {nx nx' : Option Addr} (h : w.heap[b]? = some (thr id nx)) : (w.setCell ⟨b, 9, none⟩ (.pointer nx')).heap[b]? = some (thr id nx') := heap_set h
theorem queue_set0 {w : World} {b : Nat} {hd tl x : Option Addr} {n : Int} (h : w.heap[b]? = some (queue hd tl n)) : (w.setCell ⟨b, 0, none⟩ (.pointer x)).heap[b]? = some (queue x tl n) := heap_set h
theorem queue_set1 {w : World} {b : Nat} {hd tl x : Option Addr} {n : Int} (h : w.heap[b]? = some (queue hd tl n)) : (w.setCell ⟨b, 1, none⟩ (.pointer x)).heap[b]? = some (queue hd x n) := heap_set h
theorem queue_set2 {w : World} {b : Nat} {hd tl : Option Addr} {n m : Int} (h : w.heap[b]? = some (queue hd tl n)) : (w.setCell ⟨b, 2, none⟩ (.int .i64 m)).heap[b]? = some (queue hd tl m) := heap_set h
theorem heap_set_other {w : World} {b c o : Nat} {u : Value} (h : c ≠ b) : (w.setCell ⟨b, o, none⟩ u).heap[c]? = w.heap[c]? := Below.heap_setCell _ _ _ _ h
end Go.Proofs.Ybulkcqzi

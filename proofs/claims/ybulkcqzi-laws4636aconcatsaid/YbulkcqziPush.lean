/-
  The contract of (*threadQueue).pushAll.
-/
import Derived.Test.YbulkcqziLink
import Derived.RegionTactic
import Derived.BigRegion
namespace Go.Proofs.Ybulkcqzi
open Go Go.RowKit
set_option linter.unusedVariables false

/-- w' is w but for the blocks of T, cell for cell in number. -/
structure Same (w w' : World) (T : Nat → Prop) : Prop where
  os : w'.os = w.os
  tape : w'.tape = w.tape
  output : w'.output = w.output
  size : w'.heap.size = w.heap.size
  block : ∀ c, ¬ T c → w'.heap[c]? = w.heap[c]?

theorem push_none (Q F : Nat) (tf : Option Addr) (nf : Int) (w : World) (hF : w.heap[F]? = some (queue none tf nf)) :
    Calls Yba.prog 6 #[.pointer (some ⟨Q, 0, none⟩), .pointer (some ⟨F, 0, none⟩)] w fun e w' => e = .returned (.tuple #[]) ∧ w' = w := by
  obtain ⟨a0, a1, a2, b0, b1, b2⟩ := queue_cells hF
  go_enter Yba.func6, Yba.ntmps6
  go_wp2
  (try simp only [Exit.inBlock, Exit.then]); refine bodyPost_ret (results_none rfl _ _ _) rfl ?_
  exact ⟨rfl, rfl⟩

theorem Same.refl (w : World) (T : Nat → Prop) : Same w w T := ⟨rfl, rfl, rfl, rfl, fun _ _ => rfl⟩
theorem Same.setCell {w w1 : World} {T : Nat → Prop} (h : Same w w1 T) (c o : Nat) (u : Value) (hc : T c) : Same w (w1.setCell ⟨c, o, none⟩ u) T :=
  ⟨h.os, h.tape, h.output, by simpa using h.size, fun k hk => (heap_set_other (fun e => hk (by rw [e]; exact hc))).trans (h.block k hk)⟩
theorem Same.drew {w w1 : World} {T : Nat → Prop} (h : Same w w1 T) : Same w w1.drew T := ⟨h.os, h.tape, h.output, h.size, h.block⟩
theorem heap_drew (w : World) : w.drew.heap = w.heap := rfl

/-- What the call leaves, told of some world. -/
def FirstEnd (w : World) (Q F : Nat) (hf : Addr) (tf : Option Addr) (n : Int) (w' : World) : Prop :=
  w'.heap[Q]? = some (queue (some hf) tf n) ∧ w'.heap[F]? = some (queue none none 0) ∧ Same w w' (fun c => c = Q ∨ c = F)
def SecondEnd (w : World) (Q F T : Nat) (hq : Option Addr) (id : Int) (hf : Addr) (tf : Option Addr) (n : Int) (w' : World) : Prop :=
  w'.heap[Q]? = some (queue hq tf n) ∧ w'.heap[F]? = some (queue none none 0) ∧ w'.heap[T]? = some (thr id (some hf)) ∧ Same w w' (fun c => c = Q ∨ c = F ∨ c = T)

theorem first_end {w : World} {Q F : Nat} {hq : Option Addr} {nq n : Int} {nf : Int} {hf : Addr} {tf : Option Addr} (hQF : Q ≠ F) (hQ : w.heap[Q]? = some (queue hq none nq)) (hF : w.heap[F]? = some (queue (some hf) tf nf)) :
    FirstEnd w Q F hf tf n ((((((w.setCell ⟨Q, 0, none⟩ (.pointer (some hf))).setCell ⟨Q, 1, none⟩ (.pointer tf)).setCell ⟨Q, 2, none⟩ (.int .i64 n)).setCell ⟨F, 0, none⟩ (.pointer none)).setCell ⟨F, 1, none⟩ (.pointer none)).setCell ⟨F, 2, none⟩ (.int .i64 0)) := by
  refine ⟨?_, ?_, ?_⟩
  · rw [heap_set_other hQF, heap_set_other hQF, heap_set_other hQF]
    exact queue_set2 (n := nq) (queue_set1 (tl := none) (queue_set0 (hd := hq) hQ))
  · refine queue_set2 (n := nf) (queue_set1 (tl := tf) (queue_set0 (hd := some hf) ?_))
    rw [heap_set_other (Ne.symm hQF), heap_set_other (Ne.symm hQF), heap_set_other (Ne.symm hQF)]; exact hF
  · exact ((((((Same.refl w _).setCell Q 0 _ (.inl rfl)).setCell Q 1 _ (.inl rfl)).setCell Q 2 _ (.inl rfl)).setCell F 0 _ (.inr rfl)).setCell F 1 _ (.inr rfl)).setCell F 2 _ (.inr rfl)
theorem FirstEnd.drew {w w' : World} {Q F : Nat} {hf : Addr} {tf : Option Addr} {n : Int} (h : FirstEnd w Q F hf tf n w') : FirstEnd w Q F hf tf n w'.drew := ⟨h.1, h.2.1, h.2.2.drew⟩

theorem second_end {w : World} {Q F T : Nat} {hq : Option Addr} {nq nf n id : Int} {hf : Addr} {tf : Option Addr} (hQF : Q ≠ F) (hTQ : T ≠ Q) (hTF : T ≠ F) (hQ : w.heap[Q]? = some (queue hq (some ⟨T, 0, none⟩) nq)) (hF : w.heap[F]? = some (queue (some hf) tf nf)) (hT : w.heap[T]? = some (thr id none)) :
    SecondEnd w Q F T hq id hf tf n ((((((w.setCell ⟨T, 9, none⟩ (.pointer (some hf))).setCell ⟨Q, 1, none⟩ (.pointer tf)).setCell ⟨Q, 2, none⟩ (.int .i64 n)).setCell ⟨F, 0, none⟩ (.pointer none)).setCell ⟨F, 1, none⟩ (.pointer none)).setCell ⟨F, 2, none⟩ (.int .i64 0)) := by
  refine ⟨?_, ?_, ?_, ?_⟩
  · rw [heap_set_other hQF, heap_set_other hQF, heap_set_other hQF]
    refine queue_set2 (n := nq) (queue_set1 (tl := some ⟨T, 0, none⟩) ?_)
    rw [heap_set_other (Ne.symm hTQ)]; exact hQ
  · refine queue_set2 (n := nf) (queue_set1 (tl := tf) (queue_set0 (hd := some hf) ?_))
    rw [heap_set_other (Ne.symm hQF), heap_set_other (Ne.symm hQF), heap_set_other (Ne.symm hTF)]; exact hF
  · rw [heap_set_other hTF, heap_set_other hTF, heap_set_other hTF, heap_set_other hTQ, heap_set_other hTQ]
    exact thr_set hT
  · exact ((((((Same.refl w _).setCell T 9 _ (.inr (.inr rfl))).setCell Q 1 _ (.inl rfl)).setCell Q 2 _ (.inl rfl)).setCell F 0 _ (.inr (.inl rfl))).setCell F 1 _ (.inr (.inl rfl))).setCell F 2 _ (.inr (.inl rfl))
theorem SecondEnd.drew {w w' : World} {Q F T : Nat} {hq : Option Addr} {id : Int} {hf : Addr} {tf : Option Addr} {n : Int} (h : SecondEnd w Q F T hq id hf tf n w') : SecondEnd w Q F T hq id hf tf n w'.drew := ⟨h.1, h.2.1, h.2.2.1, h.2.2.2.drew⟩

set_option maxHeartbeats 1000000 in
theorem push_first (Q F : Nat) (hQF : Q ≠ F) (hq : Option Addr) (nq nf : Int) (hf : Addr) (tf : Option Addr) (hn0 : 0 ≤ nq) (hn1 : nq ≤ 1024) (hm0 : 0 ≤ nf) (hm1 : nf ≤ 1024) (w : World)
    (hQ : w.heap[Q]? = some (queue hq none nq)) (hF : w.heap[F]? = some (queue (some hf) tf nf)) :
    Calls Yba.prog 6 #[.pointer (some ⟨Q, 0, none⟩), .pointer (some ⟨F, 0, none⟩)] w fun e w' => e = .returned (.tuple #[]) ∧ FirstEnd w Q F hf tf (nq + nf) w' := by
  obtain ⟨a0, a1, a2, b0, b1, b2⟩ := queue_cells hF
  obtain ⟨c0, c1, c2, d0, d1, d2⟩ := queue_cells hQ
  have HQ : Hid _ := hQ
  have HF : Hid _ := hF
  clear hQ hF
  have hne : (Q == F) = false := by simpa using hQF
  have hQF' : ¬ F = Q := fun e => hQF e.symm
  go_enter Yba.func6, Yba.ntmps6
  go_wp2
  go_region
  all_goals go_wp2
  all_goals go_end0
  all_goals exact ⟨rfl, (first_end hQF HQ.out HF.out).drew⟩

set_option maxHeartbeats 1000000 in
theorem push_second (Q F T : Nat) (hQF : Q ≠ F) (hTQ : T ≠ Q) (hTF : T ≠ F) (hq : Option Addr) (nq nf id : Int) (hf : Addr) (tf : Option Addr) (hn0 : 0 ≤ nq) (hn1 : nq ≤ 1024) (hm0 : 0 ≤ nf) (hm1 : nf ≤ 1024) (w : World)
    (hQ : w.heap[Q]? = some (queue hq (some ⟨T, 0, none⟩) nq)) (hF : w.heap[F]? = some (queue (some hf) tf nf)) (hT : w.heap[T]? = some (thr id none)) :
    Calls Yba.prog 6 #[.pointer (some ⟨Q, 0, none⟩), .pointer (some ⟨F, 0, none⟩)] w fun e w' => e = .returned (.tuple #[]) ∧ SecondEnd w Q F T hq id hf tf (nq + nf) w' := by
  obtain ⟨a0, a1, a2, b0, b1, b2⟩ := queue_cells hF
  obtain ⟨c0, c1, c2, d0, d1, d2⟩ := queue_cells hQ
  obtain ⟨t3, t9, tf9⟩ := thr_cells hT
  have HQ : Hid _ := hQ
  have HF : Hid _ := hF
  have HT : Hid _ := hT
  clear hQ hF hT
  have hQF' : ¬ F = Q := fun e => hQF e.symm
  have hTQ' : ¬ Q = T := fun e => hTQ e.symm
  have hTF' : ¬ F = T := fun e => hTF e.symm
  go_enter Yba.func6, Yba.ntmps6
  go_wp2
  go_region
  all_goals go_wp2
  all_goals go_region
  all_goals go_wp2
  all_goals go_end0
  all_goals exact ⟨rfl, (second_end hQF hTQ hTF HQ.out HF.out HT.out).drew.drew⟩
end Go.Proofs.Ybulkcqzi

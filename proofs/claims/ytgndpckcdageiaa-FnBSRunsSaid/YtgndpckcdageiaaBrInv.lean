/-
  BSRun: how memory stands in the course of the run.
-/
import Derived.Test.YtgndpckcdageiaaBrMem
import Derived.Test.YtgndpckcdageiaaBrPlan
import Derived.Test.YtgndpckcdageiaaBsImplEq
import Derived.Test.YtgndpckcdageiaaSt
namespace Go.Proofs.Ytgndpckcdageiaa.bs
open Go.RowKit Go.Proofs.Ytgndpckcdageiaa.base Go.Proofs.Ytgndpckcdageiaa.heap Go.Proofs.Ytgndpckcdageiaa.bit
open Go.Proofs.Ytgndpckcdageiaa.rows (RS OS flat_snoc flat_one flat_len)
set_option linter.unusedVariables false
/-- an answer in memory: where its numbers stand, its bits -/
structure Bt where
  a : Option Addr
  m : Nat
  cap : Nat
  b : List Bool
def bc (x : Bt) : List Value := [.int .u64 (x.b.length : Int), .slice x.a x.m x.cap]
theorem bc_len (x : Bt) : (bc x).length = 2 := rfl
theorem bc_one (x : Bt) : ∀ u ∈ bc x, u.oneCell' = true := by intro u hu; simp [bc] at hu; rcases hu with rfl | rfl <;> rfl
def stc (t : BSt) : List Value := [.int .i64 (t.op : Int), .int .i64 (t.on : Int), .int .i64 (t.by_ : Int), .int .u64 (t.a : Int), .int .u64 (t.b : Int)]
theorem stc_len (t : BSt) : (stc t).length = 5 := rfl
theorem stc_one (t : BSt) : ∀ u ∈ stc t, u.oneCell' = true := by intro u hu; simp [stc] at hu; rcases hu with rfl | rfl | rfl | rfl | rfl <;> rfl
theorem ptr_one (l : List O) : ∀ u ∈ l.map O.ptr, u.oneCell' = true := by
  intro u hu
  obtain ⟨o, _, rfl⟩ := List.mem_map.1 hu
  rfl
structure BInv (w wr : World) (l : List O) (s : List (List Bool)) (pa : Option Addr) (pc : Nat) (oa : Option Addr) (k oc : Nat) (As : List Bt) : Prop where
  mem : Mem wr l s
  row : Own 45 1 wr pa l.length pc (l.map O.ptr)
  out : OS 25 bc 2 wr oa k oc As
  its : ∀ x ∈ As, RU wr x.a x.m x.cap (ones x.b) ∧ ∀ j, At x.a j → j < wr.heap.size ∧ ¬ FoL l j ∧ ¬ At pa j ∧ ¬ At oa j
  new : ∀ j, FoL l j ∨ At pa j ∨ At oa j → w.heap.size ≤ j
  ap1 : ∀ j, FoL l j → ¬ At pa j ∧ ¬ At oa j
  ap2 : ∀ j, At pa j → ¬ At oa j
  same : Same w wr
section
variable {w wr w1 w2 : World} {l : List O} {s : List (List Bool)} {pa oa : Option Addr} {pc k oc : Nat} {As : List Bt}
theorem BInv.still (h : BInv w wr l s pa pc oa k oc As) (hS : Same wr w1) : BInv w w1 l s pa pc oa k oc As :=
  ⟨h.mem.still hS, h.row.keep hS (fun _ _ => id), h.out.still hS, fun x hx => ⟨(h.its x hx).1.keep hS (fun _ _ => id), fun j hj => ⟨Nat.lt_of_lt_of_le ((h.its x hx).2 j hj).1 hS.size, ((h.its x hx).2 j hj).2⟩⟩, h.new, h.ap1, h.ap2, Only.trans h.same hS (fun _ _ f => f)⟩
/-- an operation has turned one of them -/
theorem BInv.op (h : BInv w wr l s pa pc oa k oc As) {i : Nat} {o : O} {b' : List Bool} (hi : l[i]? = some o) (hu : Upd o b' wr w2) : ∃ l' o', l'[i]? = some o' ∧ o'.ptr = o.ptr ∧ l'.length = l.length ∧ o'.ok w2 ∧ o'.rep b' ∧ BInv w w2 l' (s.set i b') pa pc oa k oc As := by
  obtain ⟨o', hp, hM, hf, hO⟩ := h.mem.upd hi hu
  have hil := (List.getElem?_eq_some_iff.1 hi).1
  have hi' : (l.set i o')[i]? = some o' := by rw [List.getElem?_set, if_pos rfl, if_pos hil]
  have hsl : i < s.length := by rw [← h.mem.len]; exact hil
  have hok := hM.ok i o' b' hi' (by rw [List.getElem?_set, if_pos rfl, if_pos hsl])
  have hpt : o'.ptr = o.ptr := by unfold O.ptr; rw [hp]
  have hmap : (l.set i o').map O.ptr = l.map O.ptr := by
    rw [List.map_set, hpt]
    apply List.ext_getElem?
    intro j
    rw [List.getElem?_set]
    split
    · rename_i e; subst e
      rw [if_pos (by rw [List.length_map]; exact hil), List.getElem?_map, hi]; rfl
    · rfl
  refine ⟨l.set i o', o', hi', hpt, List.length_set, hok.1, hok.2, ⟨hM, ?_, h.out.keep hO (fun j hj hf2 => (h.ap1 j hf2).2 hj), fun x hx => ⟨(h.its x hx).1.keep hO (fun j hj hf2 => ((h.its x hx).2 j hj).2.1 hf2), fun j hj => ?_⟩, fun j hj => ?_, fun j hj => ?_, h.ap2, ?_⟩⟩
  · rw [hmap, List.length_set]
    exact h.row.keep hO (fun j hj hf2 => (h.ap1 j hf2).1 hj)
  · obtain ⟨h1, h2, h3, h4⟩ := (h.its x hx).2 j hj
    exact ⟨Nat.lt_of_lt_of_le h1 hO.size, fun hf2 => (hf j hf2).elim h2 (fun h5 => by omega), h3, h4⟩
  · rcases hj with hj | hj
    · rcases hf j hj with h1 | h1
      · exact h.new j (.inl h1)
      · have := h.same.size; omega
    · exact h.new j (.inr hj)
  · rcases hf j hj with h1 | h1
    · exact h.ap1 j h1
    · exact ⟨fun h2 => by have := h.row.lt j h2; omega, fun h2 => by have := h.out.1.lt j h2; omega⟩
  · exact Only.trans h.same hO (fun j hjl hf2 => by have := h.new j (.inl hf2); omega)
/-- a further bitset: it is made, and its pointer is appended -/
theorem BInv.more (h : BInv w wr l s pa pc oa k oc As) {o : O} {b : List Bool} (hS : Same wr w1) (hok : o.ok w1) (hrep : o.rep b) (hfr : ∀ j, o.foot j → wr.heap.size ≤ j) {w3 : World} (hS3 : Same w1 w3) {pa' : Option Addr} {pc' : Nat}
    (hG : Grew 45 1 w3 w2 pa pa' 1 (l.length + 1) pc pc' (l.map O.ptr ++ [o.ptr])) : BInv w w2 (l ++ [o]) (s ++ [b]) pa' pc' oa k oc As ∧ o.ok w2 := by
  have hM := h.mem.snoc hok hrep hS hfr
  have hlt1 := hok.lt
  have hfr2 : ∀ j, FoL (l ++ [o]) j → ¬ At pa j := fun j hj hp => by
    rcases hj.snoc with h1 | h1
    · exact (h.ap1 j h1).1 hp
    · have := hfr j h1; have := h.row.lt j hp; omega
  have hO : Only (At pa) w1 w2 := Only.trans (hS3.mono (fun _ _ f => f.elim)) hG.only (fun _ _ h => h)
  have hpn : ∀ j, At pa' j → At pa j ∨ w1.heap.size ≤ j := fun j hj => (hG.fresh j hj).imp id (fun h2 => Nat.le_trans hS3.size h2)
  refine ⟨⟨hM.keep hO hfr2, ?_, (h.out.still hS).keep hO (fun j hj hp => h.ap2 j hp hj), fun x hx => ⟨((h.its x hx).1.keep hS (fun _ _ => id)).keep hO (fun j hj hp => ((h.its x hx).2 j hj).2.2.1 hp), fun j hj => ?_⟩, fun j hj => ?_, fun j hj => ⟨fun hp => ?_, fun hp => ?_⟩, fun j hj hp => ?_, ?_⟩, hok.keep hO (fun j hj hp => by have := hfr j hj; have := h.row.lt j hp; omega)⟩
  · rw [List.map_append, List.length_append]
    exact hG.own
  · obtain ⟨h1, h2, h3, h4⟩ := (h.its x hx).2 j hj
    refine ⟨Nat.lt_of_lt_of_le h1 (Nat.le_trans hS.size hO.size), fun hf2 => ?_, fun hp => ?_, h4⟩
    · rcases hf2.snoc with h5 | h5
      · exact h2 h5
      · have := hfr j h5; omega
    · rcases hpn j hp with h5 | h5
      · exact h3 h5
      · have := hS.size; omega
  · have hws := h.same.size
    rcases hj with hj | hj | hj
    · rcases hj.snoc with h1 | h1
      · exact h.new j (.inl h1)
      · have := hfr j h1; omega
    · rcases hpn j hj with h1 | h1
      · exact h.new j (.inr (.inl h1))
      · have := hS.size; omega
    · exact h.new j (.inr (.inr hj))
  · rcases hpn j hp with h1 | h1
    · exact hfr2 j hj h1
    · rcases hj.snoc with h2 | h2
      · have := h.mem.lt j h2; have := hS.size; omega
      · have := hlt1 j h2; omega
  · rcases hj.snoc with h1 | h1
    · exact (h.ap1 j h1).2 hp
    · have := hfr j h1; have := h.out.1.lt j hp; omega
  · rcases hpn j hj with h1 | h1
    · exact h.ap2 j h1 hp
    · have := h.out.1.lt j hp; have := hS.size; omega
  · exact Only.trans (Only.trans h.same hS (fun _ _ f => f)) hO (fun j hjl hp => by have := h.new j (.inr (.inl hp)); omega)
/-- an answer is appended -/
theorem BInv.said (h : BInv w wr l s pa pc oa k oc As) {x : Bt} (hS : Same wr w1) (hr : RU w1 x.a x.m x.cap (ones x.b)) (hfr : ∀ j, At x.a j → wr.heap.size ≤ j ∧ j < w1.heap.size) {w3 : World} (hS3 : Same w1 w3) {oa' : Option Addr} {oc' : Nat}
    (hG : Grew 25 2 w3 w2 oa oa' 1 (k + 1) oc oc' (As.flatMap bc ++ bc x)) : BInv w w2 l s pa pc oa' (k + 1) oc' (As ++ [x]) := by
  have hO : Only (At oa) w1 w2 := Only.trans (hS3.mono (fun _ _ f => f.elim)) hG.only (fun _ _ h => h)
  have hon : ∀ j, At oa' j → At oa j ∨ w1.heap.size ≤ j := fun j hj => (hG.fresh j hj).imp id (fun h2 => Nat.le_trans hS3.size h2)
  have hws := h.same.size
  refine ⟨(h.mem.still hS).keep hO (fun j hj => (h.ap1 j hj).2), (h.row.keep hS (fun _ _ => id)).keep hO (fun j hj => h.ap2 j hj), ⟨?_, by rw [List.length_append, h.out.2]; rfl⟩, fun y hy => ?_, fun j hj => ?_, fun j hj => ⟨(h.ap1 j hj).1, fun hp => ?_⟩, fun j hj hp => ?_, ?_⟩
  · rw [flat_snoc]; exact hG.own
  · rcases List.mem_append.1 hy with hy | hy
    · obtain ⟨h0, hj0⟩ := h.its y hy
      refine ⟨(h0.keep hS (fun _ _ => id)).keep hO (fun j hj hp => (hj0 j hj).2.2.2 hp), fun j hj => ?_⟩
      obtain ⟨h1, h2, h3, h4⟩ := hj0 j hj
      refine ⟨Nat.lt_of_lt_of_le h1 (Nat.le_trans hS.size hO.size), h2, h3, fun hp => ?_⟩
      rcases hon j hp with h5 | h5
      · exact h4 h5
      · have := hS.size; omega
    · rw [List.mem_singleton] at hy
      subst hy
      refine ⟨hr.keep hO (fun j hj hp => by have := hfr j hj; have := h.out.1.lt j hp; omega), fun j hj => ?_⟩
      obtain ⟨h1, h2⟩ := hfr j hj
      refine ⟨Nat.lt_of_lt_of_le h2 hO.size, fun hf => by have := h.mem.lt j hf; omega, fun hp => by have := h.row.lt j hp; omega, fun hp => ?_⟩
      rcases hon j hp with h5 | h5
      · have := h.out.1.lt j h5; omega
      · omega
  · rcases hj with hj | hj | hj
    · exact h.new j (.inl hj)
    · exact h.new j (.inr (.inl hj))
    · rcases hon j hj with h1 | h1
      · exact h.new j (.inr (.inr h1))
      · have := hS.size; omega
  · rcases hon j hp with h1 | h1
    · exact (h.ap1 j hj).2 h1
    · have := h.mem.lt j hj; have := hS.size; omega
  · rcases hon j hp with h1 | h1
    · exact h.ap2 j hj h1
    · have := h.row.lt j hj; have := hS.size; omega
  · exact Only.trans (Only.trans h.same hS (fun _ _ f => f)) hO (fun j hjl hp => by have := h.new j (.inr (.inr hp)); omega)
end
end Go.Proofs.Ytgndpckcdageiaa.bs

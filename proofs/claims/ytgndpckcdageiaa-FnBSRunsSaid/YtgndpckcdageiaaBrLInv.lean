/-
  FnBSRuns: how memory stands in the course of the first loop.
-/
import Derived.Test.YtgndpckcdageiaaBrInv
import Derived.Test.YtgndpckcdageiaaBrNorm
namespace Go.Proofs.Ytgndpckcdageiaa.bs
open Go.RowKit Go.Proofs.Ytgndpckcdageiaa.base Go.Proofs.Ytgndpckcdageiaa.heap Go.Proofs.Ytgndpckcdageiaa.bit
open Go.Proofs.Ytgndpckcdageiaa.rows (RS OS flat_snoc flat_one flat_len)
set_option linter.unusedVariables false
/-- a list of bits in memory -/
structure Rb where
  a : Option Addr
  cap : Nat
  b : List Bool
def rbv (x : Rb) : Value := .slice x.a x.b.length x.cap
theorem rb_one (l : List Rb) : ∀ u ∈ l.map rbv, u.oneCell' = true := by
  intro u hu
  obtain ⟨o, _, rfl⟩ := List.mem_map.1 hu
  rfl
/-- a list that is empty reads as nothing wherever it points -/
theorem rb_keepc {w w' : World} {x : Rb} {S : Nat → Prop} (h : RB w x.a x.b.length x.cap x.b) (ho : Only S w w') (hn : x.b ≠ [] → ∀ k, At x.a k → ¬ S k) : RB w' x.a x.b.length x.cap x.b := by
  by_cases e : x.b = []
  · refine ⟨⟨h.1.len, h.1.le, h.1.max, h.1.one, fun hp => ?_, h.1.nilcap⟩, h.2⟩
    rw [e] at hp
    exact absurd hp (Nat.lt_irrefl _)
  · exact h.keep ho (hn e)
theorem rb_lt {w : World} {x : Rb} (h : RB w x.a x.b.length x.cap x.b) (e : x.b ≠ []) : ∀ j, At x.a j → j < w.heap.size := by
  intro j hj
  obtain ⟨b, off, ha, hb, _⟩ := h.at (Nat.pos_of_ne_zero (fun h0 => e (List.eq_nil_of_length_eq_zero h0)))
  rw [ha] at hj
  have : b = j := hj
  omega
structure LInv (w wr : World) (As : List Rb) (al : Option Addr) (cl : Nat) (T : List BSt) (la : Option Addr) (lc : Nat) (Ws : List Bt) (wa : Option Addr) (wc k : Nat) : Prop where
  all : Own 29 1 wr al As.length cl (As.map rbv)
  stp : OS 35 stc 5 wr la k lc T
  wnt : OS 25 bc 2 wr wa k wc Ws
  aits : ∀ x ∈ As, RB wr x.a x.b.length x.cap x.b ∧ (x.b ≠ [] → ∀ j, At x.a j → j < wr.heap.size ∧ ¬ At al j ∧ ¬ At la j ∧ ¬ At wa j)
  wits : ∀ x ∈ Ws, RU wr x.a x.m x.cap (ones x.b) ∧ ∀ j, At x.a j → j < wr.heap.size ∧ ¬ At al j ∧ ¬ At la j ∧ ¬ At wa j
  new : ∀ j, At al j ∨ At la j ∨ At wa j → w.heap.size ≤ j
  d1 : ∀ j, At al j → ¬ At la j ∧ ¬ At wa j
  d2 : ∀ j, At la j → ¬ At wa j
  same : Same w wr
section
variable {w wr w1 w2 w3 : World} {As : List Rb} {al la wa al' la' wa' : Option Addr} {cl lc wc k cl' lc' wc' : Nat} {T : List BSt} {Ws : List Bt}
theorem LInv.lt (h : LInv w wr As al cl T la lc Ws wa wc k) : ∀ j, At al j ∨ At la j ∨ At wa j → j < wr.heap.size := by
  rintro j (hj | hj | hj)
  · exact h.all.lt j hj
  · exact h.stp.1.lt j hj
  · exact h.wnt.1.lt j hj
theorem LInv.still (h : LInv w wr As al cl T la lc Ws wa wc k) (hS : Same wr w1) : LInv w w1 As al cl T la lc Ws wa wc k :=
  ⟨h.all.keep hS (fun _ _ => id), h.stp.still hS, h.wnt.still hS, fun x hx => ⟨(h.aits x hx).1.keep hS (fun _ _ => id), fun e j hj => ⟨Nat.lt_of_lt_of_le ((h.aits x hx).2 e j hj).1 hS.size, ((h.aits x hx).2 e j hj).2⟩⟩,
    fun x hx => ⟨(h.wits x hx).1.keep hS (fun _ _ => id), fun j hj => ⟨Nat.lt_of_lt_of_le ((h.wits x hx).2 j hj).1 hS.size, ((h.wits x hx).2 j hj).2⟩⟩, h.new, h.d1, h.d2, Only.trans h.same hS (fun _ _ f => f)⟩
/-- one of the lists is another one now -/
theorem LInv.set (h : LInv w wr As al cl T la lc Ws wa wc k) {x : Rb} (hS : Same wr w1) (hr : RB w1 x.a x.b.length x.cap x.b) (hfr : ∀ j, At x.a j → wr.heap.size ≤ j) {i ab : Nat} (hi : i < As.length) (hab : al = some ⟨ab, 0, none⟩) :
    LInv w (w1.setCell ⟨ab, i, none⟩ (rbv x)) (As.set i x) al cl T la lc Ws wa wc k := by
  have h1 := h.still hS
  have hO : Only (At al) w1 (w1.setCell ⟨ab, i, none⟩ (rbv x)) := (Only.refl _ _).setCell _ _ (fun _ => by rw [hab]; rfl)
  have hsz : (w1.setCell ⟨ab, i, none⟩ (rbv x)).heap.size = w1.heap.size := by simp
  refine ⟨?_, h1.stp.keep hO (fun j hj hp => (h.d1 j hp).1 hj), h1.wnt.keep hO (fun j hj hp => (h.d1 j hp).2 hj), fun y hy => ?_, fun y hy => ⟨(h1.wits y hy).1.keep hO (fun j hj hp => ((h1.wits y hy).2 j hj).2.1 hp), fun j hj => by rw [hsz]; exact (h1.wits y hy).2 j hj⟩, h.new, h.d1, h.d2, ?_⟩
  · rw [List.length_set, List.map_set]
    exact h1.all.set hab i _ rfl (by omega)
  · rcases List.mem_or_eq_of_mem_set hy with hy | hy
    · exact ⟨rb_keepc (h1.aits y hy).1 hO (fun e j hj hp => ((h1.aits y hy).2 e j hj).2.1 hp), fun e j hj => by rw [hsz]; exact (h1.aits y hy).2 e j hj⟩
    · subst hy
      refine ⟨hr.keep hO (fun j hj hp => by have := hfr j hj; have := h.all.lt j hp; omega), fun e j hj => ?_⟩
      have h5 : wr.heap.size ≤ j ∧ j < w1.heap.size := ⟨hfr j hj, rb_lt hr e j hj⟩
      have h6 := h.lt j
      rw [hsz]
      exact ⟨h5.2, fun hp => by have := h6 (.inl hp); omega, fun hp => by have := h6 (.inr (.inl hp)); omega, fun hp => by have := h6 (.inr (.inr hp)); omega⟩
  · exact Only.trans h1.same hO (fun j hjl hp => by have := h.new j (.inl hp); omega)
/-- a further list -/
theorem LInv.more (h : LInv w wr As al cl T la lc Ws wa wc k) {x : Rb} (hS : Same wr w1) (hr : RB w1 x.a x.b.length x.cap x.b) (hfr : ∀ j, At x.a j → wr.heap.size ≤ j) (hS3 : Same w1 w3)
    (hG : Grew 29 1 w3 w2 al al' 1 (As.length + 1) cl cl' (As.map rbv ++ [rbv x])) : LInv w w2 (As ++ [x]) al' cl' T la lc Ws wa wc k := by
  have h1 := h.still hS
  have hO : Only (At al) w1 w2 := Only.trans (hS3.mono (fun _ _ f => f.elim)) hG.only (fun _ _ h => h)
  have hn : ∀ j, At al' j → At al j ∨ w1.heap.size ≤ j := fun j hj => (hG.fresh j hj).imp id (fun h2 => Nat.le_trans hS3.size h2)
  have hws := h1.same.size
  have hws2 := hS.size
  have h6 := h.lt
  refine ⟨?_, h1.stp.keep hO (fun j hj hp => (h.d1 j hp).1 hj), h1.wnt.keep hO (fun j hj hp => (h.d1 j hp).2 hj), fun y hy => ?_, fun y hy => ⟨(h1.wits y hy).1.keep hO (fun j hj hp => ((h1.wits y hy).2 j hj).2.1 hp), fun j hj => ?_⟩, fun j hj => ?_, fun j hj => ?_, h.d2, ?_⟩
  · rw [List.length_append, List.map_append]; exact hG.own
  · rcases List.mem_append.1 hy with hy | hy
    · refine ⟨rb_keepc (h1.aits y hy).1 hO (fun e j hj hp => ((h1.aits y hy).2 e j hj).2.1 hp), fun e j hj => ?_⟩
      obtain ⟨g1, g2, g3, g4⟩ := (h1.aits y hy).2 e j hj
      exact ⟨Nat.lt_of_lt_of_le g1 hO.size, fun hp => (hn j hp).elim g2 (fun g5 => by omega), g3, g4⟩
    · rw [List.mem_singleton] at hy
      subst hy
      refine ⟨hr.keep hO (fun j hj hp => by have := hfr j hj; have := h6 j (.inl hp); omega), fun e j hj => ?_⟩
      have h5 : wr.heap.size ≤ j ∧ j < w1.heap.size := ⟨hfr j hj, rb_lt hr e j hj⟩
      exact ⟨Nat.lt_of_lt_of_le h5.2 hO.size, fun hp => (hn j hp).elim (fun g => by have := h6 j (.inl g); omega) (fun g5 => by omega), fun hp => by have := h6 j (.inr (.inl hp)); omega, fun hp => by have := h6 j (.inr (.inr hp)); omega⟩
  · obtain ⟨g1, g2, g3, g4⟩ := (h1.wits y hy).2 j hj
    exact ⟨Nat.lt_of_lt_of_le g1 hO.size, fun hp => (hn j hp).elim g2 (fun g5 => by omega), g3, g4⟩
  · rcases hj with hj | hj
    · rcases hn j hj with g | g
      · exact h.new j (.inl g)
      · omega
    · exact h.new j (.inr hj)
  · rcases hn j hj with g | g
    · exact h.d1 j g
    · exact ⟨fun hp => by have := h6 j (.inr (.inl hp)); omega, fun hp => by have := h6 j (.inr (.inr hp)); omega⟩
  · exact Only.trans h1.same hO (fun j hjl hp => by have := h.new j (.inl hp); omega)
/-- a step and what is wanted of it are appended -/
theorem LInv.two (h : LInv w wr As al cl T la lc Ws wa wc k) {t : BSt} {x : Bt} (hS : Same wr w3) (hG : Grew 35 5 w3 w1 la la' 1 (k + 1) lc lc' (T.flatMap stc ++ stc t))
    {w4 w5 : World} (hS4 : Same w1 w4) (hr : RU w4 x.a x.m x.cap (ones x.b)) (hfr : ∀ j, At x.a j → w1.heap.size ≤ j ∧ j < w4.heap.size) (hS5 : Same w4 w5) (hG2 : Grew 25 2 w5 w2 wa wa' 1 (k + 1) wc wc' (Ws.flatMap bc ++ bc x)) :
    LInv w w2 As al cl (T ++ [t]) la' lc' (Ws ++ [x]) wa' wc' (k + 1) := by
  have h1 := h.still hS
  have hws := h1.same.size
  have hws1 := hS.size
  have hl3 := h1.lt
  -- the steps
  have hn1 : ∀ j, At la' j → At la j ∨ w3.heap.size ≤ j := hG.fresh
  have hO1 := hG.only
  have hsz1 := hO1.size
  have k1 : Own 29 1 w4 al As.length cl (As.map rbv) := (h1.all.keep hO1 (fun j hj hp => (h.d1 j hj).1 hp)).keep hS4 (fun _ _ => id)
  have k2 : OS 35 stc 5 w4 la' (k + 1) lc' (T ++ [t]) := ⟨(by rw [flat_snoc]; exact hG.own.keep hS4 (fun _ _ => id)), by rw [List.length_append, h1.stp.2]; rfl⟩
  have k3 : OS 25 bc 2 w4 wa k wc Ws := (h1.wnt.keep hO1 (fun j hj hp => h.d2 j hp hj)).still hS4
  -- what is wanted
  have hn2 : ∀ j, At wa' j → At wa j ∨ w4.heap.size ≤ j := fun j hj => (hG2.fresh j hj).imp id (fun g => Nat.le_trans hS5.size g)
  have hO2 : Only (At wa) w4 w2 := Only.trans (hS5.mono (fun _ _ f => f.elim)) hG2.only (fun _ _ h => h)
  have hsz4 := hS4.size
  have hsz2 := hO2.size
  have hla4 : ∀ j, At la' j → j < w4.heap.size := fun j hj => Nat.lt_of_lt_of_le (hG.own.lt j hj) hsz4
  have hdlw : ∀ j, At la' j → ¬ At wa j := fun j hj hp => (hn1 j hj).elim (fun g => h.d2 j g hp) (fun g => by have := hl3 j (.inr (.inr hp)); omega)
  have hdal : ∀ j, At al j → ¬ At la' j := fun j hj hp => (hn1 j hp).elim (fun g => (h.d1 j hj).1 g) (fun g => by have := hl3 j (.inl hj); omega)
  have hit : ∀ j, j < w3.heap.size ∧ ¬ At al j ∧ ¬ At la j ∧ ¬ At wa j → j < w2.heap.size ∧ ¬ At al j ∧ ¬ At la' j ∧ ¬ At wa' j := fun j ⟨g1, g2, g3, g4⟩ =>
    ⟨by omega, g2, fun hp => (hn1 j hp).elim g3 (fun g => by omega), fun hp => (hn2 j hp).elim g4 (fun g => by omega)⟩
  refine ⟨k1.keep hO2 (fun j hj hp => (h.d1 j hj).2 hp), k2.keep hO2 (fun j hj hp => hdlw j hj hp), ⟨?_, by rw [List.length_append, k3.2]; rfl⟩, fun y hy => ⟨?_, fun e j hj => hit j ((h1.aits y hy).2 e j hj)⟩, fun y hy => ?_, fun j hj => ?_, fun j hj => ⟨hdal j hj, fun hp => ?_⟩, fun j hj hp => ?_, ?_⟩
  · rw [flat_snoc]; exact hG2.own
  · exact rb_keepc ((rb_keepc (h1.aits y hy).1 hO1 (fun e j hj hp => ((h1.aits y hy).2 e j hj).2.2.1 hp)).keep hS4 (fun _ _ => id)) hO2 (fun e j hj hp => ((h1.aits y hy).2 e j hj).2.2.2 hp)
  · rcases List.mem_append.1 hy with hy | hy
    · exact ⟨(((h1.wits y hy).1.keep hO1 (fun j hj hp => ((h1.wits y hy).2 j hj).2.2.1 hp)).keep hS4 (fun _ _ => id)).keep hO2 (fun j hj hp => ((h1.wits y hy).2 j hj).2.2.2 hp), fun j hj => hit j ((h1.wits y hy).2 j hj)⟩
    · rw [List.mem_singleton] at hy
      subst hy
      refine ⟨hr.keep hO2 (fun j hj hp => by have := hfr j hj; have := hl3 j (.inr (.inr hp)); omega), fun j hj => ?_⟩
      have h5 := hfr j hj
      exact ⟨by omega, fun hp => by have := hl3 j (.inl hp); omega, fun hp => by have := hG.own.lt j hp; omega, fun hp => (hn2 j hp).elim (fun g => by have := hl3 j (.inr (.inr g)); omega) (fun g => by omega)⟩
  · rcases hj with hj | hj | hj
    · exact h.new j (.inl hj)
    · rcases hn1 j hj with g | g
      · exact h.new j (.inr (.inl g))
      · omega
    · rcases hn2 j hj with g | g
      · exact h.new j (.inr (.inr g))
      · omega
  · rcases hn2 j hp with g | g
    · exact (h.d1 j hj).2 g
    · have := hl3 j (.inl hj); omega
  · rcases hn2 j hp with g | g
    · exact hdlw j hj g
    · have := hla4 j hj; omega
  · exact Only.trans (Only.trans (Only.trans h1.same hO1 (fun j hjl hp => by have := h.new j (.inr (.inl hp)); omega)) hS4 (fun _ _ f => f)) hO2 (fun j hjl hp => by have := h.new j (.inr (.inr hp)); omega)
end
end Go.Proofs.Ytgndpckcdageiaa.bs

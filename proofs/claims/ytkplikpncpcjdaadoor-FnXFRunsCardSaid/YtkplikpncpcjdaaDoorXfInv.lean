/-
  XFRun: steps and answers; what holds in the course of it.
-/
import Derived.Test.YtkplikpncpcjdaaDoorXfImpl
namespace Go.Proofs.YtkplikpncpcjdaaDoor.xf
open Go.RowKit Go.Proofs.YtkplikpncpcjdaaDoor.base Go.Proofs.YtkplikpncpcjdaaDoor.heap Go.Proofs.YtkplikpncpcjdaaDoor.rows Go.Proofs.YtkplikpncpcjdaaDoor.mapn
set_option linter.unusedVariables false

/-- a step -/
structure Stp where
  op : Int
  ia : Option Addr
  im : Nat
  ic : Nat
  I : List It
  ka : Option Addr
  km : Nat
  kc : Nat
  K : List Nat
def stc (s : Stp) : List Value := [.int .i64 s.op, .slice s.ia s.im s.ic, .slice s.ka s.km s.kc]
theorem stc_len (s : Stp) : (stc s).length = 3 := rfl
theorem stc_one (x : Stp) : ∀ u ∈ stc x, u.oneCell' = true := by
  intro u hu
  simp only [stc, List.mem_cons, List.not_mem_nil, or_false] at hu
  rcases hu with rfl | rfl | rfl <;> rfl
def anc (x : An) : List Value := [.slice x.a x.n x.cap, .int .u64 (x.num : Int), .bool x.yes]
theorem anc_len (s : An) : (anc s).length = 3 := rfl
theorem anc_one (x : An) : ∀ u ∈ anc x, u.oneCell' = true := by
  intro u hu
  simp only [anc, List.mem_cons, List.not_mem_nil, or_false] at hu
  rcases hu with rfl | rfl | rfl <;> rfl
/-- what a step's rows read -/
def StIn (w : World) (s : Stp) : Prop := RS itc 2 w s.ia s.im s.ic s.I ∧ RL uv w s.ka s.km s.kc s.K
theorem StIn.still {w w' : World} {s : Stp} (h : StIn w s) (ho : Same w w') : StIn w' s := ⟨h.1.still ho, h.2.still ho⟩
/-- what an answer's row reads -/
def AnIn (w : World) (x : An) : Prop := RS itc 2 w x.a x.n x.cap x.L
/-- what is asked of a step -/
structure Okay (m : Nat) (s : Stp) : Prop where
  op : s.op = 1 ∨ s.op = 3 ∨ s.op = 4 ∨ s.op = 5 ∨ s.op = 6 ∨ s.op = 7
  few : s.I.length ≤ 100
  inU : ∀ y ∈ s.I, y.1 < 2 ^ m
  key : s.K.headD 0 < 2 ^ m
def nxt (L : List It) (s : Stp) : List It := if s.op = 1 then puts L s.I else L
def sayL (L : List It) (s : Stp) : List It := if s.op = 3 then (fnd L (s.K.headD 0)).toList else if s.op = 6 then L.head?.toList else if s.op = 7 then L.getLast?.toList else []
def sayN (L : List It) (s : Stp) : Nat := if s.op = 5 then L.length else 0
def sayY (L : List It) (s : Stp) : Bool := if s.op = 4 then (fnd L (s.K.headD 0)).isSome else false
/-- what an answer says -/
def Says (L : List It) (s : Stp) (x : An) : Prop := x.L = sayL L s ∧ x.num = sayN L s ∧ x.yes = sayY L s
/-- the entries behind steps -/
def runL (l : List Stp) : List It := l.foldl nxt []
theorem runL_snoc (l : List Stp) (s : Stp) : runL (l ++ [s]) = nxt (runL l) s := by simp [runL]
/-- the answers to steps -/
def Ran (l : List Stp) (As : List An) : Prop := As.length = l.length ∧ ∀ i s x, l[i]? = some s → As[i]? = some x → Says (runL (l.take i)) s x
theorem Ran.snoc {l : List Stp} {As : List An} (h : Ran l As) {s : Stp} {x : An} (hx : Says (runL l) s x) : Ran (l ++ [s]) (As ++ [x]) := by
  obtain ⟨h1, h2⟩ := h
  refine ⟨by simp [h1], fun i s' x' hs hx' => ?_⟩
  rcases Nat.lt_trichotomy i l.length with hi | hi | hi
  · rw [List.getElem?_append_left hi] at hs
    rw [List.getElem?_append_left (by omega)] at hx'
    rw [List.take_append_of_le_length (by omega)]
    exact h2 i s' x' hs hx'
  · subst hi
    rw [List.getElem?_append_right (by omega)] at hs
    rw [List.getElem?_append_right (by omega)] at hx'
    rw [h1] at hx'
    simp at hs hx'
    subst hs hx'
    rw [List.take_left']
    · exact hx
    · rfl
  · have h3 : (l ++ [s])[i]? = none := List.getElem?_eq_none (by simp; omega)
    rw [h3] at hs; cases hs
theorem nxt_le (L : List It) (s : Stp) : (nxt L s).length ≤ L.length + s.I.length := by
  unfold nxt
  split
  · exact puts_le L s.I
  · omega
/-- what a step does -/
def StepR (wr : World) (tb : Nat) (O : Nat → Prop) (L : List It) (m : Nat) (s : Stp) (x : An) (w3 : World) : Prop :=
  ∃ O', Tr w3 tb O' (nxt L s) m ∧ Only O wr w3 ∧ (∀ k, O' k → O k ∨ wr.heap.size ≤ k) ∧ Says L s x ∧ AnIn w3 x ∧ ∀ k, At x.a k → wr.heap.size ≤ k ∧ k < w3.heap.size ∧ ¬ O' k
/-- in the course of the run -/
structure Inv (w wr : World) (tb m : Nat) (O : Nat → Prop) (l : List Stp) (oa : Option Addr) (k oc : Nat) (As : List An) : Prop where
  tr : Tr wr tb O (runL (l.take k)) m
  out : OS 39 anc 3 wr oa k oc As
  ins : ∀ x ∈ As, AnIn wr x ∧ ∀ j, At x.a j → w.heap.size ≤ j ∧ j < wr.heap.size ∧ ¬ O j ∧ ¬ At oa j
  new : ∀ j, O j ∨ At oa j → w.heap.size ≤ j
  apart : ∀ j, At oa j → ¬ O j
  same : Same w wr
  ran : Ran (l.take k) As
  len : (runL (l.take k)).length ≤ k * 100
theorem Tr.lt {w : World} {tb m : Nat} {O : Nat → Prop} {L : List It} (h : Tr w tb O L m) {k : Nat} (hk : O k) : 2 ≤ k ∧ k < w.heap.size := by
  obtain ⟨S, lb, root, md, mn, mx, h1, h2, h3, h4, h5, h6⟩ := h
  exact h6 k hk
theorem RS.lt {α : Type} {c : α → List Value} {K : Nat} {w : World} {a : Option Addr} {n cap : Nat} {l : List α} (hc : ∀ x, (c x).length = K) (h : RS c K w a n cap l) {k : Nat} (hk : At a k) (hn : 0 < n) : k < w.heap.size := by
  obtain ⟨b, off, rfl, hb, _⟩ := h.at hc hn
  have : b = k := hk
  omega
theorem Inv.step {w wr w2 w3 w4 w5 : World} {tb m : Nat} {O : Nat → Prop} {oa oa2 : Option Addr} {k oc oc2 : Nat} {l : List Stp} {As : List An} {s : Stp} {x : An} (h : Inv w wr tb m O l oa k oc As) (hk : l[k]? = some s) (ho : Okay m s) (hs : Same wr w2)
    (hR : StepR w2 tb O (runL (l.take k)) m s x w3) (h34 : Same w3 w4) (hG : Grew 39 3 w4 w5 oa oa2 1 (k + 1) oc oc2 (As.flatMap anc ++ anc x)) :
    ∃ O', Inv w w5 tb m O' l oa2 (k + 1) oc2 (As ++ [x]) := by
  obtain ⟨O', r1, r2, r3, r4, r5, r6⟩ := hR
  have hO4 : Only (At oa) w3 w5 := Only.trans (S := At oa) (h34.mono (fun _ _ f => f.elim)) hG.only (fun _ _ h => h)
  have z0 := h.same.size
  have z1 := hs.size
  have z2 := r2.size
  have z3 := h34.size
  have hoa : ∀ j, At oa j → j < wr.heap.size := h.out.1.lt
  have hap : ∀ j, At oa j → ¬ O' j := fun j hj hf' => by
    rcases r3 j hf' with h' | h'
    · exact h.apart j hj h'
    · have := hoa j hj; omega
  have hfr : ∀ j, At oa2 j → At oa j ∨ w3.heap.size ≤ j := fun j hj => (hG.fresh j hj).imp id (fun h' => by omega)
  have ht3 := take_snoc l k s hk
  refine ⟨O', ⟨?_, ⟨by rw [flat_snoc]; exact hG.own, by rw [List.length_append, h.out.2]; rfl⟩, fun y hy => ?_, fun j hj => ?_, fun j hj hf' => ?_, ?_, ?_, ?_⟩⟩
  · rw [ht3, runL_snoc]
    exact r1.keep hO4 (fun j hj ha => hap j ha hj)
  · rcases List.mem_append.1 hy with hy | hy
    · obtain ⟨y1, y2⟩ := h.ins y hy
      have y3 : AnIn w3 y := (y1.still hs).keep r2 (fun j hj => (y2 j hj).2.2.1)
      have z5 := hO4.size
      refine ⟨y3.keep hO4 (fun j hj => (y2 j hj).2.2.2), fun j hj => ⟨(y2 j hj).1, by have := (y2 j hj).2.1; omega, fun hf' => ?_, fun hf' => ?_⟩⟩
      · rcases r3 j hf' with h' | h'
        · exact (y2 j hj).2.2.1 h'
        · have := (y2 j hj).2.1; omega
      · rcases hfr j hf' with h' | h'
        · exact (y2 j hj).2.2.2 h'
        · have := (y2 j hj).2.1; omega
    · rw [List.mem_singleton] at hy
      subst hy
      refine ⟨r5.keep hO4 (fun j hj ha => ?_), fun j hj => ⟨?_, by have := (r6 j hj).2.1; have := hO4.size; omega, (r6 j hj).2.2, fun ha => ?_⟩⟩
      · have := hoa j ha; have := (r6 j hj).1; omega
      · have := (r6 j hj).1; omega
      · have h8 := (r6 j hj).1
        have h9 := (r6 j hj).2.1
        rcases hfr j ha with h' | h'
        · have := hoa j h'; omega
        · omega
  · rcases hj with hj | hj
    · rcases r3 j hj with h' | h'
      · exact h.new j (.inl h')
      · omega
    · rcases hfr j hj with h' | h'
      · exact h.new j (.inr h')
      · omega
  · rcases hfr j hj with h' | h'
    · exact hap j h' hf'
    · have := (r1.lt hf').2; omega
  · have h1 : Only (fun j => w.heap.size ≤ j) wr w3 := Only.trans (S := fun j => w.heap.size ≤ j) (hs.mono (fun _ _ h => h.elim)) r2 (fun j _ hj => h.new j (.inl hj))
    have h2 : Only (fun j => w.heap.size ≤ j) wr w5 := h1.trans hO4 (fun j _ hj => h.new j (.inr hj))
    exact new_only h.same h2 (fun j hj => hj)
  · rw [ht3]
    exact h.ran.snoc r4
  · rw [ht3, runL_snoc]
    have := nxt_le (runL (l.take k)) s
    have := h.len
    have := ho.few
    omega
end Go.Proofs.YtkplikpncpcjdaaDoor.xf

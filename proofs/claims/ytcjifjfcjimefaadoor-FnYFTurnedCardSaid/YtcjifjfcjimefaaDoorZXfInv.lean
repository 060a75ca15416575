/-
  XFRun: steps and answers; what holds in the course of it.
-/
import Derived.Test.YtcjifjfcjimefaaDoorZXfImpl
namespace Go.Proofs.YtcjifjfcjimefaaDoor.xf
open Go.RowKit Go.Proofs.YtcjifjfcjimefaaDoor.base Go.Proofs.YtcjifjfcjimefaaDoor.heap Go.Proofs.YtcjifjfcjimefaaDoor.rows Go.Proofs.YtcjifjfcjimefaaDoor.mapn
set_option linter.unusedVariables false

/-- a step -/
structure Stp where
  op : Int
  ia : Option Addr
  im : Nat
  ic : Nat
  I : List It
  ka : Option Addr
  km : Nat
  kc : Nat
  K : List Nat
def stc (s : Stp) : List Value := [.int .i64 s.op, .slice s.ia s.im s.ic, .slice s.ka s.km s.kc]
theorem stc_len (s : Stp) : (stc s).length = 3 := rfl
theorem stc_one (x : Stp) : ∀ u ∈ stc x, u.oneCell' = true := by
  intro u hu
  simp only [stc, List.mem_cons, List.not_mem_nil, or_false] at hu
  rcases hu with rfl | rfl | rfl <;> rfl
def anc (x : An) : List Value := [.slice x.a x.n x.cap, .int .u64 (x.num : Int), .bool x.yes]
theorem anc_len (s : An) : (anc s).length = 3 := rfl
theorem anc_one (x : An) : ∀ u ∈ anc x, u.oneCell' = true := by
  intro u hu
  simp only [anc, List.mem_cons, List.not_mem_nil, or_false] at hu
  rcases hu with rfl | rfl | rfl <;> rfl
/-- what a step's rows read -/
def StIn (w : World) (s : Stp) : Prop := RS itc 2 w s.ia s.im s.ic s.I ∧ RL uv w s.ka s.km s.kc s.K
theorem StIn.still {w w' : World} {s : Stp} (h : StIn w s) (ho : Same w w') : StIn w' s := ⟨h.1.still ho, h.2.still ho⟩
/-- what an answer's row reads -/
def AnIn (w : World) (x : An) : Prop := RS itc 2 w x.a x.n x.cap x.L
/-- what is asked of a step -/
structure Okay (m : Nat) (s : Stp) : Prop where
  op : s.op = 1 ∨ s.op = 3 ∨ s.op = 4 ∨ s.op = 5 ∨ s.op = 6 ∨ s.op = 7
  few : s.I.length ≤ 100
  inU : ∀ y ∈ s.I, y.1 < 2 ^ m
  key : s.K.headD 0 < 2 ^ m
def nxt (L : List It) (s : Stp) : List It := if s.op = 1 then puts L s.I else L
def sayL (L : List It) (s : Stp) : List It := if s.op = 3 then (fnd L (s.K.headD 0)).toList else if s.op = 6 then L.head?.toList else if s.op = 7 then L.getLast?.toList else []
def sayN (L : List It) (s : Stp) : Nat := if s.op = 5 then L.length else 0
def sayY (L : List It) (s : Stp) : Bool := if s.op = 4 then (fnd L (s.K.headD 0)).isSome else false
/-- what an answer says -/
def Says (L : List It) (s : Stp) (x : An) : Prop := x.L = sayL L s ∧ x.num = sayN L s ∧ x.yes = sayY L s
/-- the entries behind steps -/
def runL (l : List Stp) : List It := l.foldl nxt []
theorem runL_snoc (l : List Stp) (s : Stp) : runL (l ++ [s]) = nxt (runL l) s := by simp [runL]
/-- the answers to steps -/
def Ran (l : List Stp) (As : List An) : Prop := As.length = l.length ∧ ∀ i s x, l[i]? = some s → As[i]? = some x → Says (runL (l.take i)) s x
theorem Ran.snoc {l : List Stp} {As : List An} (h : Ran l As) {s : Stp} {x : An} (hx : Says (runL l) s x) : Ran (l ++ [s]) (As ++ [x]) := by
  obtain ⟨h1, h2⟩ := h
  refine ⟨by simp [h1], fun i s' x' hs hx' => ?_⟩
  rcases Nat.lt_trichotomy i l.length with hi | hi | hi
  · rw [List.getElem?_append_left hi] at hs
    rw [List.getElem?_append_left (by omega)] at hx'
    rw [List.take_append_of_le_length (by omega)]
    exact h2 i s' x' hs hx'
  · subst hi
    rw [List.getElem?_append_right (by omega)] at hs
    rw [List.getElem?_append_right (by omega)] at hx'
    rw [h1] at hx'
    simp at hs hx'
    subst hs hx'
    rw [List.take_left']
    · exact hx
    · rfl
  · have h3 : (l ++ [s])[i]? = none := List.getElem?_eq_none (by simp; omega)
    rw [h3] at hs; cases hs
theorem nxt_le (L : List It) (s : Stp) : (nxt L s).length ≤ L.length + s.I.length := by
  unfold nxt
  split
  · exact puts_le L s.I
  · omega
theorem RS.lt {α : Type} {c : α → List Value} {K : Nat} {w : World} {a : Option Addr} {n cap : Nat} {l : List α} (hc : ∀ x, (c x).length = K) (h : RS c K w a n cap l) {k : Nat} (hk : At a k) (hn : 0 < n) : k < w.heap.size := by
  obtain ⟨b, off, rfl, hb, _⟩ := h.at hc hn
  have : b = k := hk
  omega
end Go.Proofs.YtcjifjfcjimefaaDoor.xf

/-
  Steps on a set: a list of them in memory; whether they are small enough.
-/
import Derived.Test.YtpccodjmjgfloaaStFlat
namespace Go.Proofs.Ytpccodjmjgfloaa.st
open Go.RowKit Go.Proofs.Ytpccodjmjgfloaa.base Go.Proofs.Ytpccodjmjgfloaa.heap Go.Proofs.Ytpccodjmjgfloaa.rows Go.Proofs.Ytpccodjmjgfloaa.mapi
set_option linter.unusedVariables false

/-- a step: its number, its values (where they lie, and what they are) -/
structure St where
  op : Int
  a : Option Addr
  n : Nat
  cap : Nat
  d : List Int
def stc (s : St) : List Value := [.int .i64 s.op, .slice s.a s.n s.cap]
def stCells (l : List St) : List Value := l.flatMap stc
theorem stCells_nil : stCells [] = [] := rfl
theorem stCells_app (l r : List St) : stCells (l ++ r) = stCells l ++ stCells r := by simp [stCells]
theorem stCells_len (l : List St) : (stCells l).length = l.length * 2 := by
  induction l with
  | nil => rfl
  | cons s l ih => simp only [stCells, List.flatMap_cons, List.length_append] at ih ⊢; rw [ih]; simp [stc]; omega
theorem stCells_get (l : List St) : ∀ (i : Nat) (s : St), l[i]? = some s → (stCells l)[i * 2]? = some (.int .i64 s.op) ∧ (stCells l)[i * 2 + 1]? = some (.slice s.a s.n s.cap) := by
  induction l with
  | nil => intro i s h; simp at h
  | cons t l ih =>
    intro i s h
    cases i with
    | zero =>
      simp at h
      subst h
      exact ⟨rfl, rfl⟩
    | succ i =>
      have := ih i s (by simpa using h)
      have e : stCells (t :: l) = stc t ++ stCells l := rfl
      rw [e]
      constructor
      · rw [List.getElem?_append_right (by simp [stc]; omega)]
        simp only [stc, List.length_cons, List.length_nil]
        rw [show (i + 1) * 2 - (0 + 1 + 1) = i * 2 by omega]
        exact this.1
      · rw [List.getElem?_append_right (by simp [stc]; omega)]
        simp only [stc, List.length_cons, List.length_nil]
        rw [show (i + 1) * 2 + 1 - (0 + 1 + 1) = i * 2 + 1 by omega]
        exact this.2
theorem stCells_one (l : List St) : ∀ u ∈ stCells l, u.oneCell' = true := by
  intro u hu
  obtain ⟨s, _, hs⟩ := List.mem_flatMap.1 hu
  simp only [stc, List.mem_cons, List.not_mem_nil, or_false] at hs
  rcases hs with rfl | rfl <;> rfl

/-- a list of steps that is read -/
def RS (w : World) (a : Option Addr) (n cap : Nat) (l : List St) : Prop := Rd 2 w a n cap (stCells l) ∧ l.length = n
theorem RS.keep {w w' : World} {a : Option Addr} {n cap : Nat} {l : List St} {S : Nat → Prop} (h : RS w a n cap l) (ho : Only S w w') (hn : ∀ k, At a k → ¬ S k) : RS w' a n cap l := ⟨h.1.keep ho hn, h.2⟩
theorem RS.at {w : World} {a : Option Addr} {n cap : Nat} {l : List St} (h : RS w a n cap l) (h0 : 0 < n) :
    ∃ b off, a = some ⟨b, off, none⟩ ∧ b < w.heap.size ∧ ∀ i s, l[i]? = some s → w.cell? ⟨b, off + i * 2, none⟩ = some (.int .i64 s.op) ∧ w.cell? ⟨b, off + i * 2 + 1, none⟩ = some (.slice s.a s.n s.cap) := by
  obtain ⟨b, off, ha, hb, hc⟩ := h.1.cells h0
  exact ⟨b, off, ha, hb, fun i s hs => by
    obtain ⟨h1, h2⟩ := stCells_get l i s hs
    exact ⟨hc _ _ h1, by have := hc _ _ h2; rwa [← Nat.add_assoc] at this⟩⟩

set_option maxHeartbeats 800000 in
theorem fits16 (s : St) (w : World) (hc : s.n ≤ s.cap ∧ s.cap ≤ 9223372036854775807) :
    Calls Try.prog 13 #[.agg #[.int .i64 s.op, .slice s.a s.n s.cap]] w (FV w (.bool (decide (s.n ≤ 2147483647)))) := by
  by_cases h : s.n ≤ 2147483647
  · have h1 : ¬ (2147483647 : Int) < (s.n : Int) := by omega
    rw [decide_eq_true h]
    clear h
    go_enter Try.func13, Try.ntmps13
    go_wp2
    go_ret
    exact ⟨rfl, (Only.refl _ w).alloc _⟩
  · have h1 : (2147483647 : Int) < (s.n : Int) := by omega
    rw [decide_eq_false h]
    clear h
    go_enter Try.func13, Try.ntmps13
    go_wp2
    go_ret
    exact ⟨rfl, (Only.refl _ w).alloc _⟩

def FFit (w : World) (n : Nat) (l : List St) (e : Ending) (w' : World) : Prop := ∃ t : Bool, e = .returned (.bool t) ∧ (t = true → n ≤ 2147483647 ∧ ∀ s ∈ l, s.n ≤ 2147483647) ∧ Same w w'

set_option maxRecDepth 100000 in
set_option maxHeartbeats 1600000 in
theorem fits15 (a : Option Addr) (n cap : Nat) (l : List St) (w : World) (h : RS w a n cap l) (hs : ∀ s ∈ l, s.n ≤ s.cap ∧ s.cap ≤ 9223372036854775807) :
    Calls Try.prog 5 #[.slice a n cap] w (FFit w n l) := by
  have hbd := h.1.bound
  by_cases hn : n ≤ 2147483647
  · have h1 : ¬ (2147483647 : Int) < (n : Int) := by omega
    have HR : Hid (∀ wx, Same w wx → RS wx a n cap l) := Lib.hid (fun wx hx => h.keep hx (fun _ _ => id))
    have HS := Lib.hid hs
    have HL := Lib.hid h.2
    clear h hs
    go_enter Try.func5, Try.ntmps5
    go_wp2_with fail
    go_loopw [4, 10] (fun _ i wr => ∃ k : Nat, k ≤ n ∧ i = .int .i64 (k : Int) ∧ (∀ j s, j < k → l[j]? = some s → s.n ≤ 2147483647) ∧ Same w wr) (fun _ i _ => n - (intOf i).toNat)
    case atStart => exact ⟨0, Nat.zero_le _, rfl, fun j s hj => absurd hj (by omega), Only.refl _ _⟩
    case round =>
      obtain ⟨k, hk, rfl, hall, hO⟩ := hrel
      have HALL := Lib.hid hall
      have HO := Lib.hid hO
      clear hall hO
      by_cases hlt : k < n
      · have hlt' : (k : Int) < (n : Int) := by omega
        obtain ⟨b, off, rfl, hb, hc⟩ := (HR.out wr HO.out).at (by omega)
        obtain ⟨s, hsk⟩ : ∃ s, l[k]? = some s := ⟨l[k]'(by rw [HL.out]; exact hlt), List.getElem?_eq_getElem _⟩
        obtain ⟨c0, c1⟩ := hc k s hsk
        have hsb := HS.out s (List.mem_of_getElem? hsk)
        have HSK := Lib.hid hsk
        have HF : Hid (∀ wx, Calls Try.prog 13 #[.agg #[.int .i64 s.op, .slice s.a s.n s.cap]] wx (FV wx (.bool (decide (s.n ≤ 2147483647))))) := Lib.hid (fun wx => fits16 s wx hsb)
        clear hc hsk
        go_wp2_with fail
        refine (HF.out _).mono ?_
        rintro e w1 ⟨rfl, hO1⟩
        have HO1 := Lib.hid (Same.trans (HO.out.alloc _) hO1)
        clear hO1
        by_cases ht : s.n ≤ 2147483647
        · rw [decide_eq_true ht]
          have HT := Lib.hid ht
          clear ht
          go_wp2_with fail
          go_roundw
          case rel =>
            refine ⟨k + 1, by omega, by go_num, fun j t hj hjt => ?_, HO1.out⟩
            by_cases e : j = k
            · subst e
              rw [HSK.out] at hjt
              cases hjt
              exact HT.out
            · exact HALL.out j t (by omega) hjt
          case measure => simp [intOf]; omega
        · rw [decide_eq_false ht]
          clear ht
          go_wp2_with fail
          go_ret
          exact ⟨false, rfl, (fun h => by cases h), HO1.out⟩
      · obtain rfl : k = n := by omega
        go_wp2_with fail
        go_ret
        exact ⟨true, rfl, fun _ => ⟨hn, fun s hs => by
          obtain ⟨j, hj⟩ := List.mem_iff_getElem?.1 hs
          exact HALL.out j s (by rw [← HL.out]; exact (List.getElem?_eq_some_iff.1 hj).1) hj⟩, HO.out⟩
  · have h1 : (2147483647 : Int) < (n : Int) := by omega
    clear h hs
    go_enter Try.func5, Try.ntmps5
    go_wp2
    go_ret
    exact ⟨false, rfl, (fun h => by cases h), Only.refl _ _⟩


def stepOk (s : St) : Bool := decide (1 ≤ s.op ∧ s.op ≤ 4 ∧ s.n ≤ 20)
def FFew (w : World) (n m : Nat) (l : List St) (e : Ending) (w' : World) : Prop := ∃ t : Bool, e = .returned (.bool t) ∧ (t = true → n ≤ 40 ∧ m ≤ 20 ∧ ∀ s ∈ l, 1 ≤ s.op ∧ s.op ≤ 4 ∧ s.n ≤ 20) ∧ Same w w'

set_option maxRecDepth 100000 in
set_option maxHeartbeats 3200000 in
theorem stFew (fa : Option Addr) (m fc : Nat) (a : Option Addr) (n cap : Nat) (l : List St) (w : World) (h : RS w a n cap l) (hs : ∀ s ∈ l, s.n ≤ s.cap ∧ s.cap ≤ 9223372036854775807) (hm : m ≤ fc ∧ fc ≤ 9223372036854775807) :
    Calls Try.prog 6 #[.slice fa m fc, .slice a n cap] w (FFew w n m l) := by
  have hbd := h.1.bound
  have HR : Hid (∀ wx, Same w wx → RS wx a n cap l) := Lib.hid (fun wx hx => h.keep hx (fun _ _ => id))
  have HS := Lib.hid hs
  have HL := Lib.hid h.2
  clear h hs
  go_enter Try.func6, Try.ntmps6
  go_wp2_with fail
  go_loopw [9] (fun i wr => ∃ k : Nat, k ≤ n ∧ i = .int .i64 (k : Int) ∧ (∀ j s, j < k → l[j]? = some s → 1 ≤ s.op ∧ s.op ≤ 4 ∧ s.n ≤ 20) ∧ Same w wr) (fun i _ => n - (intOf i).toNat)
  case atStart => exact ⟨0, Nat.zero_le _, rfl, fun j s hj => absurd hj (by omega), Only.refl _ _⟩
  case round =>
    obtain ⟨k, hk, rfl, hall, hO⟩ := hrel
    have HALL := Lib.hid hall
    have HO := Lib.hid hO
    clear hall hO
    by_cases hlt : k < n
    · have hlt' : (k : Int) < (n : Int) := by omega
      obtain ⟨b, off, rfl, hb, hc⟩ := (HR.out wr HO.out).at (by omega)
      obtain ⟨s, hsk⟩ : ∃ s, l[k]? = some s := ⟨l[k]'(by rw [HL.out]; exact hlt), List.getElem?_eq_getElem _⟩
      obtain ⟨c0, c1⟩ := hc k s hsk
      have hsb := HS.out s (List.mem_of_getElem? hsk)
      have HSK := Lib.hid hsk
      have HFIN : Hid (Same w (wr.alloc (.cells #[.int .i64 s.op, .slice s.a s.n s.cap] 30))) := Lib.hid (HO.out.alloc _)
      clear hc hsk
      have hsp : (s.n : Int) ≤ 20 ∨ 20 < (s.n : Int) := by omega
      by_cases h1 : s.op < 1
      · go_wp2_with fail
        go_ret
        exact ⟨false, rfl, (fun h => by cases h), HFIN.out⟩
      · by_cases h4 : 4 < s.op
        · go_wp2_with fail
          go_ret
          exact ⟨false, rfl, (fun h => by cases h), HFIN.out⟩
        · by_cases h20 : (20 : Int) < (s.n : Int)
          · go_wp2_with fail
            go_ret
            exact ⟨false, rfl, (fun h => by cases h), HFIN.out⟩
          · have HT : Hid (1 ≤ s.op ∧ s.op ≤ 4 ∧ s.n ≤ 20) := Lib.hid ⟨by omega, by omega, by omega⟩
            go_wp2_with fail
            go_roundw
            case rel =>
              refine ⟨k + 1, by omega, by go_num, fun j t hj hjt => ?_, HFIN.out⟩
              by_cases e : j = k
              · subst e
                rw [HSK.out] at hjt
                cases hjt
                exact HT.out
              · exact HALL.out j t (by omega) hjt
            case measure => simp [intOf]; omega
    · obtain rfl : k = n := by omega
      by_cases h40 : (k : Int) ≤ 40
      · by_cases h20 : (m : Int) ≤ 20
        · go_wp2_with fail
          go_ret
          exact ⟨true, rfl, fun _ => ⟨by omega, by omega, fun s hs => by
            obtain ⟨j, hj⟩ := List.mem_iff_getElem?.1 hs
            exact HALL.out j s (by rw [← HL.out]; exact (List.getElem?_eq_some_iff.1 hj).1) hj⟩, HO.out⟩
        · go_wp2_with fail
          go_ret
          exact ⟨false, rfl, (fun h => by cases h), HO.out⟩
      · go_wp2_with fail
        go_ret
        exact ⟨false, rfl, (fun h => by cases h), HO.out⟩
end Go.Proofs.Ytpccodjmjgfloaa.st

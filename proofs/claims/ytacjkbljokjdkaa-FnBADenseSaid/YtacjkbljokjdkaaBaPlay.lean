/-
  Moves on a dense array: what they leave, what they are answered.
-/
import Derived.Test.YtacjkbljokjdkaaBaAsk3
import Derived.Test.YtacjkbljokjdkaaBaDoesE
import Derived.Test.YtacjkbljokjdkaaBaPlain
namespace Go.Proofs.Ytacjkbljokjdkaa.ba
open Go.RowKit Go.Proofs.Ytacjkbljokjdkaa.base Go.Proofs.Ytacjkbljokjdkaa.heap Go.Proofs.Ytacjkbljokjdkaa.rows Go.Proofs.Ytacjkbljokjdkaa.bit Go.Proofs.Ytacjkbljokjdkaa.bs
set_option linter.unusedVariables false
section
variable {s : List BA} {i : Nat} {d : BA} (hd : s[i]? = some d) (hdd : d.dense = true)
include hd hdd
theorem does_countK (k : Nat) : Does s { op := 10, on := i, k := k } s { n := d.set.length } := by
  intro w q c a l h hs hl
  obtain ⟨p, ab, cb, ws, lo, hi, any, hx, h1, h2, h3, h4⟩ := dense_at hd hdd h hs
  refine (stepCountK h i p d _ k hx d.set.length ?_ (Lib.hid (fun wx hS => (countD (h2.still hS)).mono ?_))).mono fun e w' hp => does_ask h hs { n := d.set.length } rfl hp
  · rw [← set_nums h3]
    have := nums_len ws ws.length
    have := h2.sm
    omega
  · rintro e w' ⟨rfl, rfl⟩
    rw [set_nums h3]
    exact ⟨rfl, Only.refl _ _⟩
theorem does_capK (k : Nat) : Does s { op := 9, on := i, k := k } s { n := 64 * d.words } := by
  intro w q c a l h hs hl
  obtain ⟨p, ab, cb, ws, lo, hi, any, hx, h1, h2, h3, h4⟩ := dense_at hd hdd h hs
  refine (stepCapK h i p d _ k hx (64 * d.words) (Lib.hid (fun wx hS => (capD (h2.still hS)).mono ?_))).mono fun e w' hp => does_ask h hs { n := 64 * d.words } rfl hp
  rintro e w' ⟨rfl, rfl⟩
  rw [h1]
  exact ⟨rfl, Only.refl _ _⟩
theorem does_emptyK (k : Nat) : Does s { op := 15, on := i, k := k } s { yes := d.set.isEmpty } := by
  intro w q c a l h hs hl
  obtain ⟨p, ab, cb, ws, lo, hi, any, hx, h1, h2, h3, h4⟩ := dense_at hd hdd h hs
  refine (stepEmptyK h i p d _ k hx d.set.isEmpty (Lib.hid (fun wx hS => (emptyD (h2.still hS)).mono ?_))).mono fun e w' hp => does_ask h hs { yes := d.set.isEmpty } rfl hp
  rintro e w' ⟨rfl, rfl⟩
  rw [← any_set h3 h4]
  exact ⟨rfl, Only.refl _ _⟩
theorem does_numsK (k : Nat) : Does s { op := 14, on := i, k := k } s { nums := d.set } := by
  intro w q c a l h hs hl
  obtain ⟨p, ab, cb, ws, lo, hi, any, hx, h1, h2, h3, h4⟩ := dense_at hd hdd h hs
  refine (stepNumsK h i p d _ k hx d.set (Lib.hid (fun wx hS => ?_))).mono fun e w' hp => does_nums h hs d.set hp
  have := numsD (h2.still hS) h4.1 h4.2.1
  rw [set_nums h3] at this
  exact this
theorem does_resetK (k : Nat) : Does s { op := 6, on := i, k := k } (s.set i { d with set := [] }) {} := by
  intro w q c a l h hs hl
  obtain ⟨p, ab, cb, ws, lo, hi, any, hx, h1, h2, h3, h4⟩ := dense_at hd hdd h hs
  refine (stepResetK h i p d _ k hx { d with set := [] } (Lib.hid (fun wx hS => (resetD (h2.still hS)).mono ?_))).mono fun e w' hp => does_turn h hs {} rfl hx hp
  rintro e w' ⟨rfl, ho, hD⟩
  refine ⟨rfl, ho, Ft p ab, ?_, fun k hk => .inl hk⟩
  have := Arr.dense p ab cb _ lo hi false _ hD (rep_zeros _) ⟨h4.1, by rw [List.length_replicate]; exact h4.2.1, fun _ => nob_zeros _, fun e => (by cases e)⟩
  have e : ({ d with set := [] } : BA) = ⟨true, ws.length, []⟩ := by rw [← h1, ← hdd]
  rw [List.length_replicate] at this
  rw [e]; exact this
end
/-- the moves by their numbers -/
def opsL : List Nat := [3, 3, 3, 3, 4, 4, 5, 5, 9, 10, 14, 15, 6, 3, 5, 4]
def mv (q x : Nat) : Stp := { op := opsL.getD (x % 16) 0, k := (x / 16) % (64 * q + 5) }
/-- an operation that a move may have -/
def OkOp (o : Nat) : Prop := o = 3 ∨ o = 4 ∨ o = 5 ∨ o = 6 ∨ o = 9 ∨ o = 10 ∨ o = 14 ∨ o = 15
theorem ops_ok {r : Nat} (h : r < 16) : OkOp (opsL.getD r 0) := by
  unfold OkOp
  have : ∀ r : Nat, r < 16 → (opsL.getD r 0 = 3 ∨ opsL.getD r 0 = 4 ∨ opsL.getD r 0 = 5 ∨ opsL.getD r 0 = 6 ∨ opsL.getD r 0 = 9 ∨ opsL.getD r 0 = 10 ∨ opsL.getD r 0 = 14 ∨ opsL.getD r 0 = 15) := by decide
  exact this r h
/-- what a move leaves -/
def play (q : Nat) (S : List Nat) (o k : Nat) : List Nat := if o = 3 then (if k < 64 * q then put S k else S) else if o = 4 then (if k < 64 * q then drp S k else S) else if o = 6 then [] else S
/-- what it is answered -/
def say (q : Nat) (S : List Nat) (o k : Nat) : Ans :=
  if o = 3 then (if k < 64 * q then { yes := true } else {}) else if o = 4 then (if k < 64 * q then { yes := true } else {}) else if o = 5 then (if k < 64 * q then { yes := true, n := if k ∈ S then 1 else 0 } else {})
  else if o = 6 then {} else if o = 9 then { n := 64 * q } else if o = 10 then { n := S.length } else if o = 14 then { nums := S } else { yes := S.isEmpty }
theorem does_play {q : Nat} {S : List Nat} {o k : Nat} (ho : OkOp o) (hk : Lt64 k) : Does [⟨true, q, S⟩] { op := o, k := k } [⟨true, q, play q S o k⟩] (say q S o k) := by
  have hd : ([⟨true, q, S⟩] : List BA)[0]? = some ⟨true, q, S⟩ := rfl
  unfold OkOp at ho
  by_cases h : k < 64 * q
  · rcases ho with rfl | rfl | rfl | rfl | rfl | rfl | rfl | rfl <;> simp only [play, say, h, if_true, reduceIte, Nat.reduceEqDiff]
    · exact does_setD hd rfl k h
    · exact does_clearD hd rfl k h
    · exact does_getD hd rfl k h
    · exact does_resetK hd rfl k
    · exact does_capK hd rfl k
    · exact does_countK hd rfl k
    · exact does_numsK hd rfl k
    · exact does_emptyK hd rfl k
  · rcases ho with rfl | rfl | rfl | rfl | rfl | rfl | rfl | rfl <;> simp only [play, say, h, if_false, reduceIte, Nat.reduceEqDiff]
    · exact does_setO hd rfl k hk h
    · exact does_clearO hd rfl k h
    · exact does_getO hd rfl k h
    · exact does_resetK hd rfl k
    · exact does_capK hd rfl k
    · exact does_countK hd rfl k
    · exact does_numsK hd rfl k
    · exact does_emptyK hd rfl k
/-- moves that can be made -/
def OkT (T : List Stp) : Prop := ∀ t ∈ T, OkOp t.op ∧ Lt64 t.k ∧ t = { op := t.op, k := t.k }
/-- the bits behind moves; their answers -/
def plays (q : Nat) (S : List Nat) (T : List Stp) : List Nat := T.foldl (fun S t => play q S t.op t.k) S
def says (q : Nat) : List Nat → List Stp → List Ans
  | _, [] => []
  | S, t :: T => say q S t.op t.k :: says q (play q S t.op t.k) T
theorem goes_plays {q : Nat} : ∀ (T : List Stp) (S : List Nat), OkT T → Goes [⟨true, q, S⟩] T (says q S T) [⟨true, q, plays q S T⟩]
  | [], S, _ => ⟨rfl, rfl⟩
  | t :: T, S, h => by
    obtain ⟨h1, h2, h3⟩ := h t (by simp)
    refine ⟨by simp, _, _, _, ?_, rfl, goes_plays T _ (fun u hu => h u (by simp [hu]))⟩
    have := does_play (q := q) (S := S) h1 h2
    rw [← h3] at this
    exact this
theorem says_len {q : Nat} : ∀ (T : List Stp) (S : List Nat), (says q S T).length = T.length
  | [], S => rfl
  | t :: T, S => by simp [says, says_len T]
theorem says_get {q : Nat} : ∀ (T : List Stp) (S : List Nat) (j : Nat) (t : Stp), T[j]? = some t → (says q S T)[j]? = some (say q (plays q S (T.take j)) t.op t.k)
  | [], S, j, t, h => by simp at h
  | u :: T, S, 0, t, h => by have : u = t := by simpa using h
                             subst this; rfl
  | u :: T, S, j + 1, t, h => by
    have := says_get (q := q) T (play q S u.op u.k) j t (by simpa using h)
    simpa [says, plays] using this
theorem plays_snoc {q : Nat} {T : List Stp} {S : List Nat} {j : Nat} {t : Stp} (h : T[j]? = some t) : plays q S (T.take (j + 1)) = play q (plays q S (T.take j)) t.op t.k := by
  unfold plays
  have e : T.take (j + 1) = T.take j ++ [t] := by rw [List.take_add_one, h]; rfl
  rw [e, List.foldl_append]
  rfl
/-- ascending, all in the array's room -/
def InR (q : Nat) (S : List Nat) : Prop := Asc S ∧ ∀ k ∈ S, k < 64 * q
theorem play_in {q : Nat} {S : List Nat} (h : InR q S) (o k : Nat) : InR q (play q S o k) := by
  unfold play
  split
  · split
    · rename_i hk
      exact ⟨put_asc h.1 k, fun x hx => by rcases put_mem.1 hx with rfl | h2; exact hk; exact h.2 x h2⟩
    · exact h
  · split
    · split
      · exact ⟨drp_asc h.1 k, fun x hx => h.2 x ((drp_mem h.1).1 hx).1⟩
      · exact h
    · split
      · exact ⟨Asc.nil, by simp⟩
      · exact h
theorem plays_in {q : Nat} : ∀ (T : List Stp) {S : List Nat}, InR q S → InR q (plays q S T)
  | [], S, h => h
  | t :: T, S, h => plays_in T (play_in h t.op t.k)
theorem drp_no {q : Nat} {S : List Nat} (h : InR q S) {k : Nat} (hk : ¬ k < 64 * q) : drp S k = S := by
  unfold drp
  rw [if_neg (fun hm => hk (h.2 k hm))]
theorem asc_len {S : List Nat} (hS : Asc S) {n : Nat} (h : ∀ k ∈ S, k < n) : S.length ≤ n := by
  have h1 : S.Nodup := hS.nodup
  have h2 : S ⊆ List.range n := fun k hk => List.mem_range.2 (h k hk)
  have := h1.length_le_of_subset h2
  simpa using this
end Go.Proofs.Ytacjkbljokjdkaa.ba

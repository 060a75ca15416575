/-
  Slices of numbers: Search, Insert; isSorted of the statements.
-/
import Derived.Test.YtpddddjfjmipfaaDoorIsBase
import Derived.Test.YtpddddjfjmipfaaDoorSrt
import Derived.StillTailTactics
namespace Go.Proofs.YtpddddjfjmipfaaDoor.isl
open Go.RowKit Go.Proofs.YtpddddjfjmipfaaDoor.base Go.Proofs.YtpddddjfjmipfaaDoor.heap Go.Proofs.YtpddddjfjmipfaaDoor.srt
set_option linter.unusedVariables false

/-- the place of a number in an ascending list -/
def Place (l : List Int) (n : Nat) (x : Int) (p : Nat) : Prop := p ≤ n ∧ (∀ k, k < p → l.getD k 0 < x) ∧ (∀ k, p ≤ k → k < n → x ≤ l.getD k 0)
def Found (l : List Int) (n : Nat) (x : Int) (w : World) (e : Ending) (w' : World) : Prop := ∃ p : Nat, Place l n x p ∧ e = .returned (.int .i64 (p : Int)) ∧ Only (fun _ => False) w w'

/-- a number put in, unless it is there -/
def ins (l : List Int) (p : Nat) (x : Int) : List Int := if p < l.length ∧ l.getD p 0 = x then l else l.take p ++ x :: l.drop p
/-- what Insert hands back -/
def Inserted (l : List Int) (n : Nat) (x : Int) (w : World) (e : Ending) (w' : World) : Prop :=
  ∃ p a' n' cap', Place l n x p ∧ e = .returned (.slice a' n' cap') ∧ Own 2 1 w' a' n' cap' (I (ins l p x)) ∧ Only (fun _ => False) w w'

theorem I_app (l l' : List Int) : I (l ++ l') = I l ++ I l' := by simp [I]
theorem I_len (l : List Int) : (I l).length = l.length := by simp [I]

/-- what stands in a row behind the exchange of its end -/
theorem put_in (l : List Int) (p n : Nat) (x : Int) (hp : p < n) (hl : l.length = n) : ((l ++ [0]).take (p + 1) ++ ((l ++ [0]).drop p).take (n - p)).set p x = l.take p ++ x :: l.drop p := by
  have e1 : (l ++ [0]).take (p + 1) = l.take (p + 1) := List.take_append_of_le_length (by omega)
  have e2 : (l ++ [0]).drop p = l.drop p ++ [0] := List.drop_append_of_le_length (by omega)
  have e3 : (l.drop p ++ [0]).take (n - p) = l.drop p := by
    rw [List.take_append_of_le_length (by rw [List.length_drop]; omega), List.take_of_length_le (by rw [List.length_drop]; omega)]
  have e4 : l.take (p + 1) = l.take p ++ [l[p]'(by omega)] := by rw [List.take_succ_eq_append_getElem (by omega)]
  rw [e1, e2, e3, e4, List.append_assoc, List.set_append_right _ _ (by rw [List.length_take]; omega), List.length_take, Nat.min_eq_left (by omega), Nat.sub_self]
  rfl

theorem putY_len (l : List Int) (p n : Nat) (hp : p < n) (hl : l.length = n) : ((l ++ [0]).take (p + 1) ++ ((l ++ [0]).drop p).take (n - p)).length = n + 1 := by
  rw [List.length_append, List.length_take, List.length_take, List.length_drop, List.length_append, hl]; simp; omega
theorem row_eq (cur : Array Value) (l : List Int) (p n : Nat) (hp : p < n) (hl : l.length = n) (ht : cur.toList.take (n + 1) = I (l ++ [0])) :
    cur.toList.take (p + 1) ++ ((I (l ++ [0])).drop p).take (n - p) = I ((l ++ [0]).take (p + 1) ++ ((l ++ [0]).drop p).take (n - p)) := by
  have e : cur.toList.take (p + 1) = (I (l ++ [0])).take (p + 1) := by rw [← ht, List.take_take, Nat.min_eq_left (by omega)]
  rw [e, I_app]
  unfold I
  rw [List.map_append, List.map_take, List.map_take, List.map_drop, List.map_append]

theorem place_sorted {l : List Int} {n : Nat} {x : Int} {p : Nat} (hl : l.length = n) (hs : Sorted l) (h : Place l n x p) :
    (x ∈ l → ins l p x = l) ∧ (x ∉ l → ins l p x = isort (l ++ [x])) := by
  obtain ⟨hp, h1, h2⟩ := h
  constructor
  · intro hx
    unfold ins
    rw [if_pos]
    obtain ⟨k, hk, rfl⟩ := List.mem_iff_getElem.1 hx
    have hg : l.getD k 0 = l[k] := by simp [hk]
    have hkp : p ≤ k := by
      refine Nat.le_of_not_lt (fun h => ?_)
      have := h1 k h
      omega
    have h3 := h2 p (Nat.le_refl _) (by omega)
    have h4 := sorted_le hs hkp hk
    exact ⟨by omega, by omega⟩
  · intro hx
    unfold ins
    rw [if_neg]
    · exact insert_sorted hs h1 (fun k hk hkl => h2 k hk (by omega)) (by omega)
    · rintro ⟨h3, h4⟩
      apply hx
      rw [← h4, show l.getD p 0 = l[p] from by simp [h3]]
      exact List.getElem_mem _

def idxOf (n d : Nat) : Int := if d < n then (d : Int) else -1
theorem first_at (l : List Int) (x : Int) : ∃ d, d ≤ l.length ∧ (∀ k, k < d → l.getD k 0 ≠ x) ∧ (d < l.length → l.getD d 0 = x) ∧ (d < l.length ↔ x ∈ l) := by
  induction l with
  | nil => exact ⟨0, Nat.le_refl _, fun k hk => by omega, fun h => by simp at h, by simp⟩
  | cons y r ih =>
    by_cases h : y = x
    · subst h
      exact ⟨0, by simp, fun k hk => by omega, fun _ => by simp, by simp⟩
    · obtain ⟨d, h1, h2, h3, h4⟩ := ih
      refine ⟨d + 1, by simpa using h1, fun k hk => ?_, fun hd => by simpa using h3 (by simpa using hd), ?_⟩
      · cases k with
        | zero => simpa using h
        | succ k => simpa using h2 k (by omega)
      · rw [List.mem_cons]
        constructor
        · intro hd
          exact .inr (h4.1 (by simpa using hd))
        · rintro (e | e)
          · exact absurd e.symm h
          · have := h4.2 e
            simpa using this

/-! ### isSorted -/
def Sorted1 (l : List Int) (w : World) (e : Ending) (w' : World) : Prop := ∃ b, e = .returned (.slice (some ⟨b, 0, none⟩) l.length l.length) ∧ Own 2 1 w' (some ⟨b, 0, none⟩) l.length l.length (I (isort l)) ∧ Only (fun _ => False) w w'
theorem make_nums (k : Nat) (hk : k ≤ 1048576) (w : World) : (Instr.makeSlice 25 (.int .i64 (k : Int)) (.int .i64 (k : Int))).run Tryd.prog w =
    .ok (.slice (some ⟨w.heap.size, 0, none⟩) k k) (w.alloc (.cells (madeCells #[.int .i64 0] k) 2)) := by
  have h := make_eq (P := Tryd.prog) (e := 2) (size := 1) .i64 .i64 Tryd.underlying25 (z := .int .i64 0) (bytes := 8) (by kernel_rfl) k (by omega) (by omega) w
  rw [Nat.mul_one] at h
  exact h
theorem nums_list (k : Nat) : (madeCells #[Value.int .i64 0] k).toList = I (List.replicate k 0) := by
  have h := made_one (.int .i64 0) rfl k
  rw [Nat.mul_one] at h
  rw [show (I (List.replicate k 0)) = List.replicate k (.int .i64 0) from by simp [I]]
  exact h

end Go.Proofs.YtpddddjfjmipfaaDoor.isl

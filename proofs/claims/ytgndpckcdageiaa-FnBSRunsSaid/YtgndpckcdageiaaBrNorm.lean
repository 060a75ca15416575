/-
  The steps of the law, made of any numbers (plain).
-/
import Derived.Test.YtgndpckcdageiaaBrOne
namespace Go.Proofs.Ytgndpckcdageiaa.bs
open Go.RowKit Go.Proofs.Ytgndpckcdageiaa.base Go.Proofs.Ytgndpckcdageiaa.heap Go.Proofs.Ytgndpckcdageiaa.bit
set_option linter.unusedVariables false
/-- a step as it is handed in -/
structure Raw where
  op : Int
  on : Int
  by_ : Int
  a : Nat
  b : Nat
def rc (r : Raw) : List Value := [.int .i64 r.op, .int .i64 r.on, .int .i64 r.by_, .int .u64 (r.a : Int), .int .u64 (r.b : Int)]
theorem rc_len (r : Raw) : (rc r).length = 5 := rfl
theorem rc_one (r : Raw) : ∀ u ∈ rc r, u.oneCell' = true := by intro u hu; simp [rc] at hu; rcases hu with rfl | rfl | rfl | rfl | rfl <;> rfl
/-- a number without its sign -/
def absN (n : Int) : Nat := if n < 0 then (-(n + 1)).toNat else n.toNat
/-- the place is cut to what there is, an operation that cannot be done becomes another one -/
def normO (o len sl : Nat) : Nat := if 7 < o ∧ o < 11 ∧ len = 0 then 1 else if 13 < o ∧ 3 < sl then 2 else o
def normA (o len a : Nat) : Nat := if 7 < o ∧ o < 11 ∧ len ≠ 0 then a % len else a
def normS (s : List (List Bool)) (r : Raw) : BSt :=
  { op := normO (1 + absN r.op % 15) (s.getD (absN r.on % s.length) []).length s.length, on := absN r.on % s.length, by_ := absN r.by_ % s.length, a := normA (1 + absN r.op % 15) (s.getD (absN r.on % s.length) []).length (r.a % 600), b := r.b % 600 }
theorem norm_ok {s : List (List Bool)} (hs : 0 < s.length) (r : Raw) : OkS s (normS s r) := by
  have h1 := Nat.mod_lt (absN r.on) hs
  have h2 := Nat.mod_lt (absN r.by_) hs
  have h3 := Nat.mod_lt r.a (show 0 < 600 by omega)
  have h4 := Nat.mod_lt r.b (show 0 < 600 by omega)
  have h5 := Nat.mod_lt (absN r.op) (show 0 < 15 by omega)
  obtain ⟨o, ho⟩ : ∃ o, 1 + absN r.op % 15 = o := ⟨_, rfl⟩
  obtain ⟨len, hl⟩ : ∃ n, (s.getD (absN r.on % s.length) []).length = n := ⟨_, rfl⟩
  refine ⟨?_, h1, h2, ?_, h4, ?_⟩
  · show OpK (normO _ _ _)
    rw [ho, hl]
    unfold normO OpK
    split
    · omega
    · split <;> omega
  · show normA _ _ _ < 600
    rw [ho, hl]
    unfold normA
    split
    · rename_i h
      have := Nat.mod_le (r.a % 600) len
      omega
    · exact h3
  · show normO _ _ _ = 8 ∨ normO _ _ _ = 9 ∨ normO _ _ _ = 10 → normA _ _ _ < (s.getD (absN r.on % s.length) []).length
    rw [ho, hl]
    intro h
    unfold normO at h
    unfold normA
    by_cases h6 : 7 < o ∧ o < 11 ∧ len = 0
    · rw [if_pos h6] at h; omega
    · rw [if_neg h6] at h
      by_cases h7 : 13 < o ∧ 3 < s.length
      · rw [if_pos h7] at h; omega
      · rw [if_neg h7] at h
        rw [if_pos (by omega)]
        exact Nat.mod_lt _ (by omega)
/-- all of them, one behind the other -/
def normT : List (List Bool) → List Raw → List BSt
  | _, [] => []
  | s, r :: R => normS s r :: normT (after s (normS s r)) R
theorem after_pos {s : List (List Bool)} (hs : 0 < s.length) (t : BSt) : 0 < (after s t).length := Nat.lt_of_lt_of_le hs (after_len s t).2
theorem normT_ok : ∀ {R : List Raw} {s : List (List Bool)}, 0 < s.length → OkTs s (normT s R)
  | [], s, h => trivial
  | r :: R, s, h => ⟨norm_ok h r, normT_ok (after_pos h _)⟩
theorem normT_len : ∀ (R : List Raw) (s : List (List Bool)), (normT s R).length = R.length
  | [], s => rfl
  | r :: R, s => by simp [normT, normT_len R]
theorem normT_snoc : ∀ (R : List Raw) (s : List (List Bool)) (r : Raw), normT s (R ++ [r]) = normT s R ++ [normS (afters s (normT s R)) r]
  | [], s, r => rfl
  | u :: R, s, r => by
    show normS s u :: normT (after s (normS s u)) (R ++ [r]) = _
    rw [normT_snoc R]; rfl
end Go.Proofs.Ytgndpckcdageiaa.bs

/-
  laws.baTwo over any two arrays.
-/
import Derived.Test.YtacjkbljokjdkaaBaPlain
import Derived.Test.YtacjkbljokjdkaaBaAnswers
import Derived.Test.YtacjkbljokjdkaaBaSame
import Derived.BigQuiet
namespace Go.Proofs.Ytacjkbljokjdkaa.ba
open Go.RowKit Go.Proofs.Ytacjkbljokjdkaa.base Go.Proofs.Ytacjkbljokjdkaa.heap Go.Proofs.Ytacjkbljokjdkaa.rows Go.Proofs.Ytacjkbljokjdkaa.bit Go.Proofs.Ytacjkbljokjdkaa.bs
set_option linter.unusedVariables false
/-- an array of the specification -/
abbrev bav (d : Bool) (q : Nat) (a : Option Addr) (n c : Nat) : Value := .agg #[.bool d, .int .u64 (q : Int), .slice a n c]
theorem lt_cell {w : World} {b j : Nat} {v : Value} (h : w.cell? ⟨b, j, none⟩ = some v) : b < w.heap.size := by
  unfold World.cell? at h
  rcases Nat.lt_or_ge b w.heap.size with h1 | h1
  · exact h1
  · rw [Array.getElem?_eq_none (by simpa using h1)] at h; simp at h
theorem as_at {As : List An3} {Y Z : List Ans} {k t : Nat} {z : Ans} (h : As.map (·.an) = Y ++ Z) (hk : Y.length = k) (hz : Z[t]? = some z) : ∃ x, As[k + t]? = some x ∧ x.an = z := by
  have h1 : (As.map (·.an))[k + t]? = some z := by
    rw [h, List.getElem?_append_right (by omega), hk]
    simpa using hz
  rw [List.getElem?_map] at h1
  cases hx : As[k + t]? with
  | none => rw [hx] at h1; cases h1
  | some x => rw [hx] at h1; exact ⟨x, rfl, by simpa using h1⟩
/-- what a law's 'fits' says of two arrays; what its 'makes' makes of two lists -/
def FitsC (ft : Nat) (x y : Bool) (q1 q2 : Nat) (A B : List Nat) (f : Bool) : Prop := ∀ sa sc sb scb wx, OU wx sa A.length sc A → OU wx sb B.length scb B → Calls Try.prog ft #[bav x q1 sa A.length sc, bav y q2 sb B.length scb] wx (FV wx (.bool f))
def MkP (C : List Nat) (w : World) (e : Ending) (w' : World) : Prop := ∃ a c, e = .returned (.slice a C.length c) ∧ OU w' a C.length c C ∧ Same w w'
def MakesC (mk : Nat) (A B C : List Nat) : Prop := ∀ sa sc sb scb wx, OU wx sa A.length sc A → OU wx sb B.length scb B → Calls Try.prog mk #[.slice sa A.length sc, .slice sb B.length scb] wx (MkP C wx)
def MadeC (x : Bool) (s on : Nat) (a : Option Addr) (n c : Nat) (l : List Nat) (m q : Nat) : Prop := ∀ wx, RL uv wx a n c l → Calls Try.prog 19 #[.bool x, .int .u16 (s : Int), .slice a n c, .int .i64 (on : Int)] wx (MadeQ x m q on (l.take 40) wx)
theorem bool_dec (n : Nat) (b : Bool) (h : b = decide (n = 0)) : (b = true ∧ n = 0) ∨ (b = false ∧ 0 < n) := by
  by_cases h0 : n = 0
  · exact .inl ⟨by rw [h]; simp [h0], h0⟩
  · exact .inr ⟨by rw [h]; simp [h0], by omega⟩
end Go.Proofs.Ytacjkbljokjdkaa.ba

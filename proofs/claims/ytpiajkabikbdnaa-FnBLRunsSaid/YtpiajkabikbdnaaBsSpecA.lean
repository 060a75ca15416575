/-
  The reference's functions on Bits: BSList, BSSame, BSIn, BSBools, BSMake, BSOf; and zzFits6, bsBits of the statements.
-/
import Derived.Test.YtpiajkabikbdnaaBsSaid64
import Derived.Laws.ResultCell
namespace Go.Proofs.Ytpiajkabikbdnaa.bs
open Go.RowKit Go.Proofs.Ytpiajkabikbdnaa.base Go.Proofs.Ytpiajkabikbdnaa.heap Go.Proofs.Ytpiajkabikbdnaa.bit
set_option linter.unusedVariables false

theorem make_bools (kl : IntKind) (k : Nat) (hk : k ≤ 1099511627776) (w : World) : (Instr.makeSlice 30 (.int kl (k : Int)) (.int kl (k : Int))).run Try.prog w =
    .ok (.slice (some ⟨w.heap.size, 0, none⟩) k k) (w.alloc (.cells (madeCells #[.bool false] k) 4)) := by
  have h := make_eq (P := Try.prog) (e := 4) (size := 1) kl kl Try.underlying30 (z := .bool false) (bytes := 1) (by kernel_rfl) k (by omega) (by omega) w
  rw [Nat.mul_one] at h
  exact h
theorem bools_list (k : Nat) : (madeCells #[Value.bool false] k).toList = B (List.replicate k false) := by
  have h := made_one (.bool false) rfl k
  rw [Nat.mul_one] at h
  rw [show (B (List.replicate k false)) = List.replicate k (.bool false) from by simp [B]]
  exact h
theorem bools_size (k : Nat) : (madeCells #[Value.bool false] k).size = k := by simp [madeCells]

theorem differ {l l' : List Nat} (hl : l.length = l'.length) (h : l ≠ l') : ∃ k, k < l.length ∧ l.getD k 0 ≠ l'.getD k 0 ∧ ∀ j, j < k → l.getD j 0 = l'.getD j 0 := by
  induction l generalizing l' with
  | nil => cases l' with
    | nil => exact absurd rfl h
    | cons y r => simp at hl
  | cons x l ih =>
    cases l' with
    | nil => simp at hl
    | cons y r =>
      by_cases hxy : x = y
      · subst hxy
        obtain ⟨k, h1, h2, h3⟩ := ih (l' := r) (by simpa using hl) (fun e => h (by rw [e]))
        refine ⟨k + 1, by simpa using h1, by simpa using h2, fun j hj => ?_⟩
        cases j with
        | zero => rfl
        | succ j => simpa using h3 j (by omega)
      · exact ⟨0, by simp, by simpa using hxy, fun j hj => by omega⟩

end Go.Proofs.Ytpiajkabikbdnaa.bs

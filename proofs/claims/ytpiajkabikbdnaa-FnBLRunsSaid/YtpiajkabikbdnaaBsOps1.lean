/-
  Bitsets: Clear, SetTo (false).
-/
import Derived.Test.YtpiajkabikbdnaaBsSet
import Derived.Test.YtpiajkabikbdnaaBsSpecD
namespace Go.Proofs.Ytpiajkabikbdnaa.bs
open Go.RowKit Go.Proofs.Ytpiajkabikbdnaa.base Go.Proofs.Ytpiajkabikbdnaa.heap Go.Proofs.Ytpiajkabikbdnaa.bit
set_option linter.unusedVariables false

/-- word j is written -/
def O.store (o : O) (j x : Nat) : O := { o with ws := o.ws.set j x }
theorem O.ok.store {o : O} {j x : Nat} {w w' : World} {b : Nat} (ha : o.a = some ⟨b, 0, none⟩) (h : o.ok w) (hj : j < o.m) (hx : Lt64 x)
    (hw : w'.heap = (w.setCell ⟨b, j, none⟩ (.int .u64 (x : Int))).heap) : (o.store j x).ok w' := by
  have hne : b ≠ o.p := fun e => h.apart (by rw [ha, e]; exact rfl)
  refine ⟨?_, ?_, by show (List.set _ _ _).length = _; rw [List.length_set]; exact h.len, h.fits.set _ hx, h.apart, h.made⟩
  · rw [hw, Below.heap_setCell _ _ _ _ (Ne.symm hne)]; exact h.obj
  · have h2 := h.own.set ha j (.int .u64 (x : Int)) rfl (by omega)
    rw [U_set] at h2
    exact h2.of_heap hw
theorem O.only_store {o : O} {j x : Nat} {w : World} {b : Nat} (ha : o.a = some ⟨b, 0, none⟩) : Only o.foot w (w.setCell ⟨b, j, none⟩ (.int .u64 (x : Int))) :=
  (Only.refl o.foot w).setCell ⟨b, j, none⟩ _ (fun _ => .inr (by rw [ha]; exact rfl))

/-- a word without bit k -/
def clr (x k : Nat) : Nat := x &&& (18446744073709551615 - 2 ^ k)
theorem lt64_clr {x k : Nat} (h : Lt64 x) : Lt64 (clr x k) := lt64_and h
theorem clr_bit {x k j : Nat} (hk : k < 64) (hj : j < 64) : (clr x k).testBit j = (x.testBit j && decide (j ≠ k)) := by
  unfold clr
  rw [Nat.testBit_and, show (18446744073709551615 : Nat) = 2 ^ 64 - 1 from by decide, Nat.sub_sub, Nat.add_comm 1, Nat.testBit_two_pow_sub_succ (Nat.pow_lt_pow_right (by omega) hk), Nat.testBit_two_pow]
  by_cases h : k = j
  · subst h; simp
  · simp [h, Ne.symm h, hj]
theorem clr_pow {x k : Nat} (hx : Lt64 x) (hk : k < 64) : bits .andNot .u64 (x : Int) (2 ^ k % 18446744073709551616) = ((clr x k : Nat) : Int) := by
  rw [pow_nat k hk]; exact u64_andNot_nat x (2 ^ k) hx (lt64_pow hk)

theorem bit_clr (ws : List Nat) (i j : Nat) (hi : i / 64 < ws.length) : bit (ws.set (i / 64) (clr (ws.getD (i / 64) 0) (i % 64))) j = (bit ws j && decide (j ≠ i)) := by
  rw [bit_set _ _ _ _ hi]
  by_cases h : j / 64 = i / 64
  · rw [if_pos h, clr_bit (Nat.mod_lt _ (by omega)) (Nat.mod_lt _ (by omega))]
    unfold bit
    rw [h]
    congr 1
    by_cases h2 : j = i
    · subst h2; simp
    · have : j % 64 ≠ i % 64 := by omega
      simp [h2, this]
  · rw [if_neg h]
    have : j ≠ i := by intro e; subst e; exact h rfl
    simp [this]

theorem putL_bit (b : List Bool) (f t how i : Nat) : (putL b f t how).getD i false = if i < b.length then (if f ≤ i ∧ i < t then (how == 1 || (how == 2 && !b.getD i false)) else b.getD i false) else false := by
  by_cases h : i < b.length
  · rw [if_pos h, putL_get _ _ _ _ _ h]
  · rw [if_neg h]; simp [putL_len, Nat.le_of_not_lt h]

end Go.Proofs.Ytpiajkabikbdnaa.bs

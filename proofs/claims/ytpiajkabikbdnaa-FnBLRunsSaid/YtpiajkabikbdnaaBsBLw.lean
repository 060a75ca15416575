/-
  A list of words that comes in; blWords of the statements.
-/
import Derived.Test.YtpiajkabikbdnaaBsBL
import Derived.Test.YtpiajkabikbdnaaBsShrink
namespace Go.Proofs.Ytpiajkabikbdnaa.bs
open Go.RowKit Go.Proofs.Ytpiajkabikbdnaa.base Go.Proofs.Ytpiajkabikbdnaa.heap Go.Proofs.Ytpiajkabikbdnaa.bit
set_option linter.unusedVariables false

theorem row_words {w : World} {a : Option Addr} {m cap : Nat} {zs : List Int} (h : IsRow .u64 w a m cap zs) : ∃ l, RU w a m cap l ∧ Ok l := by
  have hle := h.le
  have hwf : ∀ i, 0 ≤ zs.getD i 0 ∧ zs.getD i 0 < 18446744073709551616 := fun i => wf_u64 (h.wf (by decide) i)
  have hlen : ((List.range m).map fun i => (zs.getD i 0).toNat).length = m := by simp
  refine ⟨(List.range m).map fun i => (zs.getD i 0).toNat, ⟨⟨by rw [U_len, hlen, Nat.mul_one], hle.1, by unfold maxLen; omega, U_one _, fun h0 => ?_, fun he => ?_⟩, hlen⟩, ?_⟩
  · obtain ⟨b, off, ha, hz, hb, hc⟩ := h.cells h0
    refine ⟨b, off, ha, hb, fun j v hj => ?_⟩
    have hj2 : j < m := by
      have := (List.getElem?_eq_some_iff.1 hj).1
      rwa [U_len, hlen] at this
    rw [U_get _ j (by rw [hlen]; exact hj2)] at hj
    cases hj
    rw [hc j (by omega)]
    have : ((List.range m).map fun i => (zs.getD i 0).toNat).getD j 0 = (zs.getD j 0).toNat := by simp [hj2]
    rw [this, Int.toNat_of_nonneg (hwf j).1]
  · rcases h with ⟨_, _, hc, _⟩ | ⟨x, hx, _⟩
    · exact hc
    · rw [he] at hx; cases hx
  · intro x hx
    obtain ⟨i, _, rfl⟩ := List.mem_map.1 hx
    have := hwf i
    unfold Lt64
    omega

/-- some words, from 1 to 12 -/
def FWords (w0 : World) (e : Ending) (w' : World) : Prop := ∃ (a : Option Addr) (n cap : Nat) (l : List Nat), e = .returned (.slice a n cap) ∧ RU w' a n cap l ∧ Ok l ∧ 0 < n ∧ n ≤ 12 ∧ Same w0 w'

set_option maxHeartbeats 800000 in
theorem blWords (a : Option Addr) (m cap : Nat) (l : List Nat) (w : World) (h : RU w a m cap l) (hl : Ok l) (hm : m ≤ 2147483647) :
    Calls Try.prog 13 #[.slice a m cap] w (FWords w) := by
  have hbd := h.1.bound
  have H := Lib.hid h
  have HL := Lib.hid hl
  clear h hl
  by_cases h0 : m = 0
  · subst h0
    go_enter Try.func13, Try.ntmps13
    go_wp2_with fail
    go_ret
    refine ⟨_, _, _, [0], rfl, ?_, fun x hx => ?_, by omega, by omega, (Only.refl _ w).alloc _⟩
    · refine ⟨⟨by simp [U], by omega, by unfold maxLen; omega, U_one _, fun _ => ⟨w.heap.size, 0, rfl, by simp, fun j v hj => ?_⟩, fun e => nomatch e⟩, rfl⟩
      cases j with
      | zero =>
        cases hj
        rw [Nat.zero_add]
        exact block_cell (heap_alloc_new _ _) rfl
      | succ j => simp [U] at hj
    · rw [List.mem_singleton] at hx; subst hx; exact lt64_zero
  · by_cases h12 : 12 < m
    · obtain ⟨b, off, rfl, hb, hc⟩ := H.out.at (by omega)
      have H2 : Hid (RU w (some ⟨b, off, none⟩) 12 cap (l.take 12)) := Lib.hid ⟨by rw [← U_take]; exact Rd.first H.out.1 12 (by omega), by rw [List.length_take, H.out.2]; omega⟩
      clear hc
      have hm0 : ¬ (m : Int) = 0 := by omega
      go_enter Try.func13, Try.ntmps13
      go_wp2_with fail
      go_ret
      exact ⟨_, _, _, _, rfl, H2.out, fun x hx => HL.out x (List.mem_of_mem_take hx), by omega, by omega, Only.refl _ w⟩
    · have hm0 : ¬ (m : Int) = 0 := by omega
      go_enter Try.func13, Try.ntmps13
      go_wp2_with fail
      go_ret
      exact ⟨a, m, cap, l, rfl, H.out, HL.out, by omega, by omega, Only.refl _ w⟩
end Go.Proofs.Ytpiajkabikbdnaa.bs

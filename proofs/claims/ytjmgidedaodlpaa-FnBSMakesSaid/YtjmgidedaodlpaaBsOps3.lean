/-
  Bitsets: GetWord64AtBit.
-/
import Derived.Test.YtjmgidedaodlpaaBsOps2
namespace Go.Proofs.Ytjmgidedaodlpaa.bs
open Go.RowKit Go.Proofs.Ytjmgidedaodlpaa.base Go.Proofs.Ytjmgidedaodlpaa.heap Go.Proofs.Ytjmgidedaodlpaa.bit
set_option linter.unusedVariables false


set_option maxRecDepth 100000 in
set_option maxHeartbeats 1600000 in
theorem word_a (o : O) (i : Nat) (w : World) (h : o.ok w) (hi : i < 1048576) (h1 : i / 64 + 1 < o.m) :
    Calls Try.prog 37 #[o.ptr, .int .u64 (i : Int)] w fun e w' => e = .returned (.int .u64 (bits .or .u64 ((o.ws.getD (i / 64) 0 : Nat) / 2 ^ (i % 64)) (IntKind.u64.wrap ((o.ws.getD (i / 64 + 1) 0 : Nat) * 2 ^ (64 - i % 64))))) ∧ w' = w := by
  obtain ⟨b, ha, hp, hb, hnb, c0, c1, f0, f1, hc, hf, hmc, hcap⟩ := h.facts
  have hr : i % 64 < 64 := Nat.mod_lt _ (by omega)
  have HWI := Lib.hid (wordsIndex i (by omega))
  obtain ⟨j, hj⟩ : ∃ j, i / 64 = j := ⟨_, rfl⟩
  have HJ : Hid ((i : Int) / 64 = (j : Int)) := Lib.hid (by omega)
  have e1 := hc (i / 64) (by omega)
  have e2 := hc (i / 64 + 1) h1
  rw [hj] at e1 e2 h1 ⊢
  generalize o.ws.getD j 0 = x at *
  generalize o.ws.getD (j + 1) 0 = y at *
  have hjm : (j : Int) < (o.m : Int) := by omega
  have hjm1 : (j : Int) + 1 < (o.m : Int) := by omega
  generalize i % 64 = r at *
  clear hc hf h hj
  unfold O.ptr
  go_enter Try.func37, Try.ntmps37
  go_wp2_with fail
  refine (HWI.out _).mono ?_
  rintro e w' ⟨rfl, rfl⟩
  rw [HJ.out]
  go_wp2_with fail
  go_ret
  exact ⟨rfl, rfl⟩

set_option maxRecDepth 100000 in
set_option maxHeartbeats 1600000 in
theorem word_b (o : O) (i : Nat) (w : World) (h : o.ok w) (hi : i < 1048576) (h1 : i / 64 < o.m) (h2 : ¬ i / 64 + 1 < o.m) :
    Calls Try.prog 37 #[o.ptr, .int .u64 (i : Int)] w fun e w' => e = .returned (.int .u64 (bits .or .u64 ((o.ws.getD (i / 64) 0 : Nat) / 2 ^ (i % 64)) 0)) ∧ w' = w := by
  obtain ⟨b, ha, hp, hb, hnb, c0, c1, f0, f1, hc, hf, hmc, hcap⟩ := h.facts
  have hr : i % 64 < 64 := Nat.mod_lt _ (by omega)
  have HWI := Lib.hid (wordsIndex i (by omega))
  obtain ⟨j, hj⟩ : ∃ j, i / 64 = j := ⟨_, rfl⟩
  have HJ : Hid ((i : Int) / 64 = (j : Int)) := Lib.hid (by omega)
  have e1 := hc (i / 64) (by omega)
  rw [hj] at e1 h1 h2 ⊢
  generalize o.ws.getD j 0 = x at *
  have hjm : (j : Int) < (o.m : Int) := by omega
  have hjm1 : ¬ (j : Int) + 1 < (o.m : Int) := by omega
  generalize i % 64 = r at *
  clear hc hf h hj
  unfold O.ptr
  go_enter Try.func37, Try.ntmps37
  go_wp2_with fail
  refine (HWI.out _).mono ?_
  rintro e w' ⟨rfl, rfl⟩
  rw [HJ.out]
  go_wp2_with fail
  go_ret
  exact ⟨rfl, rfl⟩

set_option maxRecDepth 100000 in
set_option maxHeartbeats 1600000 in
theorem word_c (o : O) (i : Nat) (w : World) (h : o.ok w) (hi : i < 1048576) (h1 : ¬ i / 64 < o.m) :
    Calls Try.prog 37 #[o.ptr, .int .u64 (i : Int)] w fun e w' => e = .returned (.int .u64 (bits .or .u64 0 0)) ∧ w' = w := by
  obtain ⟨b, ha, hp, hb, hnb, c0, c1, f0, f1, hc, hf, hmc, hcap⟩ := h.facts
  have hr : i % 64 < 64 := Nat.mod_lt _ (by omega)
  have HWI := Lib.hid (wordsIndex i (by omega))
  obtain ⟨j, hj⟩ : ∃ j, i / 64 = j := ⟨_, rfl⟩
  have HJ : Hid ((i : Int) / 64 = (j : Int)) := Lib.hid (by omega)
  have hj5 : j ≤ 1048576 := by omega
  rw [hj] at h1
  have hjm : ¬ (j : Int) < (o.m : Int) := by omega
  have hjm1 : ¬ (j : Int) + 1 < (o.m : Int) := by omega
  generalize i % 64 = r at *
  clear hc hf h hj
  unfold O.ptr
  go_enter Try.func37, Try.ntmps37
  go_wp2_with fail
  refine (HWI.out _).mono ?_
  rintro e w' ⟨rfl, rfl⟩
  rw [HJ.out]
  go_wp2_with fail
  go_ret
  exact ⟨rfl, rfl⟩

theorem shl_bit {y s k : Nat} (hk : k < 64) : (y * 2 ^ s % 18446744073709551616).testBit k = (decide (s ≤ k) && y.testBit (k - s)) := by
  rw [show (18446744073709551616 : Nat) = 2 ^ 64 from by decide, Nat.testBit_mod_two_pow, ← Nat.shiftLeft_eq, Nat.testBit_shiftLeft]
  simp [hk]
theorem shr_bit {x r k : Nat} : (x / 2 ^ r).testBit k = x.testBit (r + k) := by
  rw [Nat.testBit_div_two_pow, Nat.add_comm]

theorem word_bit {X : Nat} (hX : Lt64 X) (k : Nat) : (bits .and .u64 ((X : Int) / 2 ^ k) 1 == 1) = X.testBit k := by
  have e : ((X : Int) / 2 ^ k) = ((X / 2 ^ k : Nat) : Int) := by push_cast; rfl
  have h1 : bits .and .u64 ((X / 2 ^ k : Nat) : Int) ((1 : Nat) : Int) = ((X / 2 ^ k &&& 1 : Nat) : Int) := and_nat (lt64_div hX) (by unfold Lt64; omega)
  rw [e, show (1 : Int) = ((1 : Nat) : Int) from rfl, h1, Nat.testBit_eq_decide_div_mod_eq, Nat.and_one_is_mod]
  generalize X / 2 ^ k = y
  have hy : y % 2 = 0 ∨ y % 2 = 1 := by omega
  rcases hy with hy | hy <;> rw [hy] <;> rfl

/-- GetWord64AtBit: the 64 bits from a place on -/
theorem word (o : O) (b : List Bool) (i : Nat) (w : World) (h : o.ok w) (hr : o.rep b) (hi : i < 1048576) :
    Calls Try.prog 37 #[o.ptr, .int .u64 (i : Int)] w fun e w' => ∃ W : Nat, Lt64 W ∧ (∀ k, k < 64 → W.testBit k = b.getD (i + k) false) ∧ e = .returned (.int .u64 (W : Int)) ∧ w' = w := by
  have hx := h.fits.at (i / 64)
  have hdiv : ∀ (x r : Nat), ((x : Nat) : Int) / 2 ^ r = ((x / 2 ^ r : Nat) : Int) := fun x r => by push_cast; rfl
  have hmul : ∀ (y s : Nat), IntKind.u64.wrap ((y : Int) * 2 ^ s) = ((y * 2 ^ s % 18446744073709551616 : Nat) : Int) := fun y s => by rw [IntKind.wrap_u64, Int.natCast_emod, Int.natCast_mul, Int.natCast_pow]; rfl
  have hfirst : ∀ k, i % 64 + k < 64 → (o.ws.getD (i / 64) 0).testBit (i % 64 + k) = b.getD (i + k) false := fun k hk => by
    rw [rep_word hr (i / 64) (i % 64 + k) hk]; congr 1; omega
  have hnext : ∀ k, 64 ≤ i % 64 + k → k < 64 → (o.ws.getD (i / 64 + 1) 0).testBit (k - (64 - i % 64)) = b.getD (i + k) false := fun k hk hk2 => by
    rw [rep_word hr (i / 64 + 1) (k - (64 - i % 64)) (by omega)]; congr 1; omega
  by_cases h1 : i / 64 + 1 < o.m
  · refine (word_a o i w h hi h1).mono fun e w' ⟨he, hw⟩ => ⟨o.ws.getD (i / 64) 0 / 2 ^ (i % 64) ||| o.ws.getD (i / 64 + 1) 0 * 2 ^ (64 - i % 64) % 18446744073709551616, ?_, ?_, ?_, hw⟩
    · exact lt64_or (lt64_div hx) (Nat.mod_lt _ (by omega))
    · intro k hk
      rw [Nat.testBit_or, shr_bit, shl_bit hk]
      by_cases hh : i % 64 + k < 64
      · rw [hfirst k hh, decide_eq_false (show ¬ 64 - i % 64 ≤ k by omega)]; simp
      · rw [testBit_far hx (by omega), decide_eq_true (show 64 - i % 64 ≤ k by omega), hnext k (by omega) hk]; simp
    · rw [he, hdiv, hmul, or_nat (lt64_div hx) (Nat.mod_lt _ (by omega))]
  · have hz : o.ws.getD (i / 64 + 1) 0 = 0 := by simp only [List.getD_eq_getElem?_getD]; rw [List.getElem?_eq_none (by rw [h.len]; omega)]; rfl
    rw [hz] at hnext
    by_cases h2 : i / 64 < o.m
    · refine (word_b o i w h hi h2 h1).mono fun e w' ⟨he, hw⟩ => ⟨o.ws.getD (i / 64) 0 / 2 ^ (i % 64), lt64_div hx, fun k hk => ?_, ?_, hw⟩
      · rw [shr_bit]
        by_cases hh : i % 64 + k < 64
        · exact hfirst k hh
        · rw [testBit_far hx (by omega), ← hnext k (by omega) hk]; simp
      · have h0 := or_nat (a := o.ws.getD (i / 64) 0 / 2 ^ (i % 64)) (b := 0) (lt64_div hx) lt64_zero
        rw [Nat.or_zero] at h0
        rw [he, hdiv]
        exact congrArg (fun z => Ending.returned (.int .u64 z)) h0
    · have hz2 : o.ws.getD (i / 64) 0 = 0 := by simp only [List.getD_eq_getElem?_getD]; rw [List.getElem?_eq_none (by rw [h.len]; omega)]; rfl
      rw [hz2] at hfirst
      refine (word_c o i w h hi h2).mono fun e w' ⟨he, hw⟩ => ⟨0, lt64_zero, fun k hk => ?_, ?_, hw⟩
      · by_cases hh : i % 64 + k < 64
        · rw [← hfirst k hh]; simp
        · rw [← hnext k (by omega) hk]; simp
      · have h0 := or_nat (a := 0) (b := 0) lt64_zero lt64_zero
        rw [he]
        exact congrArg (fun z => Ending.returned (.int .u64 z)) h0
end Go.Proofs.Ytjmgidedaodlpaa.bs

/-
  Bitsets: ShiftLeft: nothing to shift.
-/
import Derived.Test.YtmadpemagfbmlaaBsShlI
import Derived.Test.YtmadpemagfbmlaaBsShl
import Derived.Test.YtmadpemagfbmlaaBsTop
import Derived.Test.YtmadpemagfbmlaaBsInter
namespace Go.Proofs.Ytmadpemagfbmlaa.bs
open Go.RowKit Go.Proofs.Ytmadpemagfbmlaa.base Go.Proofs.Ytmadpemagfbmlaa.heap Go.Proofs.Ytmadpemagfbmlaa.bit
set_option linter.unusedVariables false

theorem lastTo_spec {f : Nat → Bool} : ∀ n, (∀ k, lastTo f n = some k → f k = true ∧ ∀ i, k < i → i < n → f i = false) ∧ (lastTo f n = none → ∀ i, i < n → f i = false)
  | 0 => ⟨fun k h => by simp [lastTo] at h, fun _ i hi => by omega⟩
  | n + 1 => by
    obtain ⟨h1, h2⟩ := lastTo_spec (f := f) n
    rw [lastTo]
    by_cases hf : f n = true
    · rw [if_pos hf]
      exact ⟨fun k h => by cases h; exact ⟨hf, fun i hi hi2 => by omega⟩, fun h => by cases h⟩
    · rw [if_neg hf]
      have hf' : f n = false := by simpa using hf
      refine ⟨fun k h => ⟨(h1 k h).1, fun i hi hi2 => ?_⟩, fun h i hi => ?_⟩
      · by_cases e : i = n
        · rw [e]; exact hf'
        · exact (h1 k h).2 i hi (by omega)
      · by_cases e : i = n
        · rw [e]; exact hf'
        · exact h2 h i (by omega)

set_option maxRecDepth 100000 in
set_option maxHeartbeats 1600000 in
/-- by no place at all -/
theorem shift_zero (o : O) (b : List Bool) (w : World) (h : o.ok w) (hr : o.rep b) :
    Calls Try.prog 21 #[o.ptr, .int .u64 0] w fun e w' => e = .returned (.tuple #[]) ∧ Upd o b w w' := by
  have HFIN : Hid (Upd o b w w) := Lib.hid ⟨o, rfl, h, hr, Only.refl _ _, fun k hk => .inl hk⟩
  clear h hr
  unfold O.ptr
  go_enter Try.func21, Try.ntmps21
  go_wp2_with (go_at_call 46; (with_reducible refine (notNil2 _ _).mono ?_); rintro e w1 ⟨rfl, rfl⟩)
  refine bodyPost_ret (v := .tuple #[]) ?_ rfl ⟨rfl, HFIN.out⟩
  simp [results, Try.results21, go_sem]

set_option maxRecDepth 100000 in
set_option maxHeartbeats 1600000 in
/-- no bit is set -/
theorem shift_none (o : O) (b : List Bool) (n : Nat) (w : World) (h : o.ok w) (hr : o.rep b) (hn : 0 < n) (hm : o.m ≤ 1048576) (ht : lastTo (bit o.ws) (64 * o.m) = none) :
    Calls Try.prog 21 #[o.ptr, .int .u64 (n : Int)] w fun e w' => e = .returned (.tuple #[]) ∧ Upd o b w w' := by
  have HFIN : Hid (Upd o b w w) := Lib.hid ⟨o, rfl, h, hr, Only.refl _ _, fun k hk => .inl hk⟩
  have HT : Hid (Calls Try.prog 47 #[.pointer (some ⟨o.p, 0, none⟩)] w fun e w' => e = .returned (.tuple #[.int .u64 0, .bool false]) ∧ w = w') := Lib.hid ((top o none w h hm (Lib.hid ht)).mono fun e w' ⟨he, hw⟩ => ⟨he, hw.symm⟩)
  have h0 : ((n : Int) == 0) = false := by rw [beq_eq_false_iff_ne]; omega
  have h1 : ¬ n = 0 := by omega
  clear h hr ht
  unfold O.ptr
  go_enter Try.func21, Try.ntmps21
  go_wp2_with (first | (go_at_call 46; (with_reducible refine (notNil2 _ _).mono ?_); rintro e w1 ⟨rfl, rfl⟩) | (go_at_call 47; (with_reducible refine HT.out.mono ?_); rintro e w1 ⟨rfl, rfl⟩))
  refine bodyPost_ret (v := .tuple #[]) ?_ rfl ⟨rfl, HFIN.out⟩
  simp [results, Try.results21, go_sem]

/-- a word list that holds the words shifted: its bits -/
theorem shl_rep {o o' : O} {b : List Bool} {n t N : Nat} {w w' : World} (h : o.ok w) (hr : o.rep b) (ht : lastTo (bit o.ws) (64 * o.m) = some t) (hD : ∀ j, o'.ws.getD j 0 = shW o.ws (n % 64) (n / 64) j)
    (hN : o'.n = N) (hN2 : N ≤ 64 * o'.m) (hNb : b.length ≤ N) (hNt : t + n + 1 ≤ N) : o'.rep (shiftL b n N) ∧ ones (shiftL b n N) = (ones b).map (· + n) := by
  obtain ⟨h1, h2⟩ := (lastTo_spec (f := bit o.ws) (64 * o.m)).1 t ht
  have htl : t < b.length := by
    rw [hr.bits] at h1
    refine Classical.byContradiction fun hge => ?_
    have : b.getD t false = false := by simp [show b.length ≤ t by omega]
    rw [this] at h1
    cases h1
  have hfar : ∀ i, t + 1 ≤ i → b.getD i false = false := fun i hi => by
    by_cases hm : i < 64 * o.m
    · rw [← hr.bits]; exact h2 i (by omega) hm
    · have := hr.room
      simp [show b.length ≤ i by omega]
  refine ⟨⟨by rw [shiftL_len]; exact hN, by rw [shiftL_len]; exact hN2, fun j => ?_⟩, ones_shift b n N (t + 1) hfar (by omega) (by omega)⟩
  rw [bit_shl (fun i => h.fits.at i) (Nat.mod_lt _ (by omega)) hD, shiftL_get, hr.bits, show 64 * (n / 64) + n % 64 = n by omega]
  by_cases hj : j < N
  · rw [decide_eq_true hj, Bool.true_and]
  · rw [decide_eq_false hj, Bool.false_and, hfar (j - n) (by omega), Bool.and_false]
end Go.Proofs.Ytmadpemagfbmlaa.bs

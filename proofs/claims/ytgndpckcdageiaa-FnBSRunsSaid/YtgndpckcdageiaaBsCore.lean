/-
  Bitsets: the contracts of the small functions, Test, Len.
-/
import Derived.Test.YtgndpckcdageiaaBsBase
namespace Go.Proofs.Ytgndpckcdageiaa.bs
open Go.RowKit Go.Proofs.Ytgndpckcdageiaa.base Go.Proofs.Ytgndpckcdageiaa.heap Go.Proofs.Ytgndpckcdageiaa.bit
set_option linter.unusedVariables false

set_option maxHeartbeats 400000 in
theorem wordsIndex (i : Nat) (hi : i < 4611686018427387904) (w : World) : Calls Try.prog 39 #[.int .u64 (i : Int)] w fun e w' => e = .returned (.int .u64 ((i % 64 : Nat) : Int)) ∧ w' = w := by
  have h := Lib.hid (mask63 (i := i) (by unfold Lt64; omega))
  go_enter Try.func39, Try.ntmps39
  go_wp2
  go_ret
  exact ⟨by rw [← h.out]; rfl, rfl⟩

set_option maxHeartbeats 400000 in
theorem wordsNeeded (i : Nat) (hi : i < 4611686018427387904) (w : World) : Calls Try.prog 42 #[.int .u64 (i : Int)] w fun e w' => e = .returned (.int .i64 (((i + 63) / 64 : Nat) : Int)) ∧ w' = w := by
  go_enter Try.func42, Try.ntmps42
  go_wp2
  go_ret
  exact ⟨ret_int (by first | rfl | (push_cast; omega)), rfl⟩

set_option maxHeartbeats 400000 in
theorem bs_len (o : O) (w : World) (h : o.ok w) : Calls Try.prog 44 #[o.ptr] w fun e w' => e = .returned (.int .u64 (o.n : Int)) ∧ w' = w := by
  obtain ⟨c0, c1, f0, f1⟩ := h.cells
  unfold O.ptr
  go_enter Try.func44, Try.ntmps44
  go_wp2
  go_ret
  exact ⟨rfl, rfl⟩

set_option maxHeartbeats 400000 in
theorem test_no (o : O) (i : Nat) (w : World) (h : o.ok w) (hi : o.n ≤ i) (hi2 : i < 4611686018427387904) : Calls Try.prog 45 #[o.ptr, .int .u64 (i : Int)] w fun e w' => e = .returned (.bool false) ∧ ∃ m, w' = w.drewN m := by
  obtain ⟨c0, c1, f0, f1⟩ := h.cells
  unfold O.ptr
  go_enter Try.func45, Try.ntmps45
  go_wp2
  go_ret
  exact ⟨rfl, 0, rfl⟩

set_option maxHeartbeats 400000 in
theorem test_yes (o : O) (i : Nat) (w : World) (h : o.ok w) (hi : i < o.n) (hm : i / 64 < o.m) (hi2 : i < 4611686018427387904) : Calls Try.prog 45 #[o.ptr, .int .u64 (i : Int)] w fun e w' => e = .returned (.bool (bit o.ws i)) ∧ ∃ m, w' = w.drewN m := by
  obtain ⟨b, ha, hp, hb, hne, c0, c1, f0, f1, hc, hf, hmc, hcap⟩ := h.facts
  have cw := hc _ hm
  have hw := h.fits.at (i / 64)
  have hmi : (i : Int) / 64 < (o.m : Int) := by omega
  clear hc hf
  have hb : Hid (∀ x : Nat, x = o.ws.getD (i / 64) 0 → (!(bits .and .u64 (x : Int) (2 ^ (i % 64) % 18446744073709551616) == 0)) = bit o.ws i) := Lib.hid (fun x hx => by
    rw [hx]; exact test_bit hw (Nat.mod_lt _ (by omega)))
  generalize hx : o.ws.getD (i / 64) 0 = x at *
  have HX := Lib.hid hx
  clear hx hw
  unfold O.ptr
  go_enter Try.func45, Try.ntmps45
  go_wp2
  go_quiet ((go_at_call 39; exact Calls.quiet_of_same (wordsIndex i hi2 _)))
  go_wp2
  go_ret
  refine ⟨?_, _, rfl⟩
  rw [← hb.out x rfl]
  rfl
end Go.Proofs.Ytgndpckcdageiaa.bs

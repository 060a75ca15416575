/-
  Bitsets: top: the last bit that is set.
-/
import Derived.Test.YtmadpemagfbmlaaBsPrev
namespace Go.Proofs.Ytmadpemagfbmlaa.bs
open Go.RowKit Go.Proofs.Ytmadpemagfbmlaa.base Go.Proofs.Ytmadpemagfbmlaa.heap Go.Proofs.Ytmadpemagfbmlaa.bit
set_option linter.unusedVariables false

set_option maxRecDepth 100000 in
set_option maxHeartbeats 1600000 in
theorem top (o : O) (R : Option Nat) (w : World) (h : o.ok w) (hm : o.m ≤ 1048576) (hR : Hid (lastTo (bit o.ws) (64 * o.m) = R)) :
    Calls Try.prog 47 #[o.ptr] w fun e w' => e = .returned (.tuple #[.int .u64 ((R.getD 0 : Nat) : Int), .bool R.isSome]) ∧ w' = w := by
  obtain ⟨b, ha, hp, hb, hnb, c0, c1, f0, f1, hc, hf, hmc, hcap⟩ := h.facts
  have HOK := Lib.hid h
  have HC := Lib.hid hc
  clear hc hf h f0 f1
  unfold O.ptr
  go_enter Try.func47, Try.ntmps47
  go_wp2_with fail
  go_loop [4, 5] (fun x v => ∃ k : Nat, k ≤ o.m ∧ x = .int .i64 ((k : Int) - 1) ∧ lastTo (bit o.ws) (64 * k) = R) (fun x v => ((intOf x) + 1).toNat)
  case atStart => exact ⟨o.m, Nat.le_refl _, by go_num, hR.out⟩
  case round =>
    obtain ⟨k, hk, rfl, hl⟩ := hrel
    cases k with
    | zero =>
      have HL := Lib.hid hl
      clear hl
      go_wp2
      go_ret2
      refine ⟨?_, rfl⟩
      rw [← HL.out]
      rfl
    | succ k =>
      have hkm : k < o.m := by omega
      have c := HC.out k hkm
      have hkm' : (k : Int) < (o.m : Int) := by omega
      have hz := HOK.out.fits.at k
      have hw := word_last (ws := o.ws) (j := k) (t := 64) (Nat.le_refl _)
      rw [show 64 * k + 64 = 64 * (k + 1) by omega, hl] at hw
      generalize o.ws.getD k 0 = z at *
      rw [Nat.mod_eq_of_lt (show z < 2 ^ 64 from hz)] at hw
      have HZ := Lib.hid hz
      have HW := Lib.hid hw
      clear hl hw hz
      have hk1 : ((k + 1 : Nat) : Int) - 1 = (k : Int) := by omega
      rw [hk1]
      by_cases hz0 : z = 0
      · subst hz0
        go_wp2
        go_round
        case rel => exact ⟨k, by omega, by go_num, by rw [HW.out, if_pos rfl]⟩
        case measure => simp [intOf]
      · have hzb : ((z : Int) != 0) = true := by rw [bne_iff_ne]; omega
        have hzb2 : (!((z : Int) == 0)) = true := by simp; omega
        have hk0 : k < 1048576 := by omega
        go_wp2_with fail
        refine (len64 z HZ.out hz0 _).mono ?_
        rintro e w'' ⟨l, hl1, hl2, HB, rfl, rfl⟩
        go_wp2_with fail
        go_ret2
        refine ⟨?_, rfl⟩
        rw [HW.out, if_neg hz0, ← HB.out]
        exact congrArg (fun z => Ending.returned (.tuple #[.int .u64 z, .bool true])) (at_place hl1 hl2 hk0).symm
end Go.Proofs.Ytmadpemagfbmlaa.bs

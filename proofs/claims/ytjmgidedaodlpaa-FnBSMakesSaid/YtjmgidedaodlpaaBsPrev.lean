/-
  Bitsets: PreviousSet, PreviousClear.
-/
import Derived.Test.YtjmgidedaodlpaaBsOps3
import Derived.Test.YtjmgidedaodlpaaBsShrink
import Derived.Test.YtjmgidedaodlpaaBsLast
import Derived.Test.YtjmgidedaodlpaaShelf
namespace Go.Proofs.Ytjmgidedaodlpaa.bs
open Go.RowKit Go.Proofs.Ytjmgidedaodlpaa.base Go.Proofs.Ytjmgidedaodlpaa.heap Go.Proofs.Ytjmgidedaodlpaa.bit
set_option linter.unusedVariables false

/-- Len64 of a word that is not 0 -/
theorem len64 (x : Nat) (hx : Lt64 x) (h0 : ¬ x = 0) (w : World) : Calls Try.prog 52 #[.int .u64 (x : Int)] w fun e w' => ∃ l : Nat, 1 ≤ l ∧ l ≤ 64 ∧ Hid (l = Lib.bitLen x) ∧ e = .returned (.int .i64 (l : Int)) ∧ w' = w := by
  have hx' := hx
  unfold Lt64 at hx'
  refine (Go.Proofs.Try.bits_Len64 (x : Int) w (by omega) (by omega)).mono fun e w' ⟨he, hw⟩ => ⟨Lib.bitLen x, ?_, ?_, Lib.hid rfl, by rw [he, Int.toNat_natCast], hw⟩
  · unfold Lib.bitLen
    have := (Lib.bitLenAux_bounds 64 x hx h0).1
    exact this
  · have := Lib.bitLen_le x 64 (by omega) (by omega)
    exact this

theorem mask_to {x r : Nat} (hx : Lt64 x) (hr : r < 64) : bits .and .u64 (x : Int) (IntKind.u64.wrap (IntKind.u64.wrap (2 ^ (r + 1)) - 1)) = ((x % 2 ^ (r + 1) : Nat) : Int) := by
  have e : IntKind.u64.wrap (IntKind.u64.wrap (2 ^ (r + 1)) - 1) = ((2 ^ (r + 1) - 1 : Nat) : Int) := by
    have h1 : (2 : Int) ^ (r + 1) = ((2 ^ (r + 1) : Nat) : Int) := by rw [Int.natCast_pow]; rfl
    rw [h1, IntKind.wrap_u64, IntKind.wrap_u64]
    have hp : 0 < 2 ^ (r + 1) := Nat.two_pow_pos _
    have hle : 2 ^ (r + 1) ≤ 2 ^ 64 := Nat.pow_le_pow_right (by omega) (by omega)
    have h64 : (2 : Nat) ^ 64 = 18446744073709551616 := by decide
    rw [h64] at hle
    generalize 2 ^ (r + 1) = y at *
    omega
  have hm : Lt64 (2 ^ (r + 1) - 1) := by
    have hp : 0 < 2 ^ (r + 1) := Nat.two_pow_pos _
    have hle : 2 ^ (r + 1) ≤ 2 ^ 64 := Nat.pow_le_pow_right (by omega) (by omega)
    unfold Lt64
    have h64 : (2 : Nat) ^ 64 = 18446744073709551616 := by decide
    rw [h64] at hle
    omega
  rw [e, and_nat hx hm, Nat.and_two_pow_sub_one_eq_mod]

theorem word_last {ws : List Nat} {j t : Nat} (ht : t ≤ 64) : lastTo (bit ws) (64 * j + t) = if ws.getD j 0 % 2 ^ t = 0 then lastTo (bit ws) (64 * j) else some (64 * j + Lib.bitLen (ws.getD j 0 % 2 ^ t) - 1) :=
  lastTo_word (ws.getD j 0) j (fun q hq => by unfold bit; rw [show (64 * j + q) / 64 = j by omega, show (64 * j + q) % 64 = q by omega]) t ht

theorem at_place {j l : Nat} (h1 : 1 ≤ l) (h2 : l ≤ 64) (hj : j < 1048576) : ((64 * j + l - 1 : Nat) : Int) = (j : Int) * 64 + l - 1 := by omega

set_option maxRecDepth 100000 in
set_option maxHeartbeats 1600000 in
theorem prevSet (o : O) (i : Nat) (R : Option Nat) (w : World) (h : o.ok w) (hi : i < 1048576) (h1 : i / 64 < o.m) (hR : Hid (lastTo (bit o.ws) (i + 1) = R)) :
    Calls Try.prog 43 #[o.ptr, .int .u64 (i : Int)] w fun e w' => e = .returned (.tuple #[.int .u64 ((R.getD 0 : Nat) : Int), .bool R.isSome]) ∧ w' = w := by
  obtain ⟨b, ha, hp, hb, hnb, c0, c1, f0, f1, hc, hf, hmc, hcap⟩ := h.facts
  have hr : i % 64 < 64 := Nat.mod_lt _ (by omega)
  have HWI := Lib.hid (wordsIndex i (by omega))
  obtain ⟨j, hj⟩ : ∃ j, i / 64 = j := ⟨_, rfl⟩
  obtain ⟨r, hr⟩ : ∃ r, i % 64 = r := ⟨_, rfl⟩
  have HJ : Hid ((i : Int) / 64 = (j : Int)) := Lib.hid (by omega)
  have hjm' : j < o.m := by omega
  have hj0 : j < 1048576 := by omega
  have e1 := hc (i / 64) h1
  have hx := h.fits.at j
  have HOK := Lib.hid h
  rw [hr] at HWI
  have hjm : (j : Int) < (o.m : Int) := by omega
  have hmi : (i : Int) / 64 < (o.m : Int) := by omega
  have ht : ((i : Int) / 64).toNat = i / 64 := by omega
  have hge : (0 : Int) ≤ (i : Int) / 64 := by omega
  have hr2 : r < 64 := by omega
  have HIJ : Hid (64 * j + (r + 1) = i + 1) := Lib.hid (by omega)
  have HC := Lib.hid hc
  rw [hj] at e1
  generalize hxe : o.ws.getD j 0 = x at *
  rw [← hj] at e1
  have HX := Lib.hid hx
  have HXE := Lib.hid hxe
  clear hc hf h hj hr hx hxe f0 f1 hjm'
  unfold O.ptr
  go_enter Try.func43, Try.ntmps43
  go_wp2_with fail
  refine (HWI.out _).mono ?_
  rintro e w' ⟨rfl, rfl⟩
  rw [HJ.out]
  have hm := mask_to HX.out hr2
  have hl := word_last (ws := o.ws) (j := j) (t := r + 1) (by omega)
  rw [HXE.out, show 64 * j + (r + 1) = i + 1 from HIJ.out, hR.out] at hl
  have hyl : Lt64 (x % 2 ^ (r + 1)) := Nat.lt_of_le_of_lt (Nat.mod_le _ _) HX.out
  generalize x % 2 ^ (r + 1) = y at *
  have HL := Lib.hid hl
  have HYL := Lib.hid hyl
  clear hl hyl ht hge hmi e1
  by_cases hy : y = 0
  · subst hy
    go_wp2_with fail
    have HR0 : Hid (lastTo (bit o.ws) (64 * j) = R) := Lib.hid (by rw [HL.out]; simp)
    clear hm
    go_loop [6, 7] (fun x v => ∃ k : Nat, k ≤ j ∧ x = .int .i64 ((k : Int) - 1) ∧ lastTo (bit o.ws) (64 * k) = R) (fun x v => ((intOf x) + 1).toNat)
    case atStart => exact ⟨j, Nat.le_refl _, by go_num, HR0.out⟩
    case round =>
      obtain ⟨k, hk, rfl, hl⟩ := hrel
      cases k with
      | zero =>
        have HL := Lib.hid hl
        clear hl
        go_wp2
        go_ret2
        refine ⟨?_, rfl⟩
        rw [← HL.out]
        rfl
      | succ k =>
        have hkm : k < o.m := by omega
        have c := HC.out k hkm
        have hkm' : (k : Int) < (o.m : Int) := by omega
        have hz := HOK.out.fits.at k
        have hw := word_last (ws := o.ws) (j := k) (t := 64) (Nat.le_refl _)
        rw [show 64 * k + 64 = 64 * (k + 1) by omega, hl] at hw
        generalize o.ws.getD k 0 = z at *
        rw [Nat.mod_eq_of_lt (show z < 2 ^ 64 from hz)] at hw
        have HZ := Lib.hid hz
        have HW := Lib.hid hw
        clear hl hw hz
        have hk1 : ((k + 1 : Nat) : Int) - 1 = (k : Int) := by omega
        rw [hk1]
        by_cases hz0 : z = 0
        · subst hz0
          go_wp2
          go_round
          case rel => exact ⟨k, by omega, by go_num, by rw [HW.out, if_pos rfl]⟩
          case measure => simp [intOf]
        · have hzb : ((z : Int) != 0) = true := by rw [bne_iff_ne]; omega
          have hzb2 : (!((z : Int) == 0)) = true := by simp; omega
          have hk0 : k < 1048576 := by omega
          go_wp2_with fail
          refine (len64 z HZ.out hz0 _).mono ?_
          rintro e w'' ⟨l, hl1, hl2, HB, rfl, rfl⟩
          go_wp2_with fail
          go_ret2
          refine ⟨?_, rfl⟩
          rw [HW.out, if_neg hz0, ← HB.out]
          exact congrArg (fun z => Ending.returned (.tuple #[.int .u64 z, .bool true])) (at_place hl1 hl2 hk0).symm
  · have hyb : ((y : Int) != 0) = true := by rw [bne_iff_ne]; omega
    have hyb2 : (!((y : Int) == 0)) = true := by simp; omega
    go_wp2_with fail
    refine (len64 y HYL.out hy _).mono ?_
    rintro e w'' ⟨l, hl1, hl2, HB, rfl, rfl⟩
    go_wp2_with fail
    go_ret2
    refine ⟨?_, rfl⟩
    rw [HL.out, if_neg hy, ← HB.out]
    exact congrArg (fun z => Ending.returned (.tuple #[.int .u64 z, .bool true])) (at_place hl1 hl2 hj0).symm
end Go.Proofs.Ytjmgidedaodlpaa.bs

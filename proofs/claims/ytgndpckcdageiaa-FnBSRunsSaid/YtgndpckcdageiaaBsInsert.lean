/-
  Bitsets: InsertAt.
-/
import Derived.Test.YtgndpckcdageiaaBsFlip
namespace Go.Proofs.Ytgndpckcdageiaa.bs
open Go.RowKit Go.Proofs.Ytgndpckcdageiaa.base Go.Proofs.Ytgndpckcdageiaa.heap Go.Proofs.Ytgndpckcdageiaa.bit
set_option linter.unusedVariables false

/-- a word, one place further, with the last bit of the one before it -/
def shl1 (x z : Nat) : Nat := (2 * x % 18446744073709551616) ||| ((z &&& 9223372036854775808) / 9223372036854775808)
theorem shl1_lt (x z : Nat) : Lt64 (shl1 x z) := by
  unfold shl1
  refine lt64_or (Nat.mod_lt _ (by omega)) ?_
  have : z &&& 9223372036854775808 ≤ 9223372036854775808 := Nat.and_le_right
  unfold Lt64
  omega
theorem shl1_bit (x z : Nat) (k : Nat) (hk : k < 64) : (shl1 x z).testBit k = if k = 0 then z.testBit 63 else x.testBit (k - 1) := by
  unfold shl1
  rw [Nat.testBit_or, show (18446744073709551616 : Nat) = 2 ^ 64 from by decide, Nat.testBit_mod_two_pow, decide_eq_true hk, Bool.true_and, show (9223372036854775808 : Nat) = 2 ^ 63 from by decide, Nat.testBit_div_two_pow, Nat.testBit_and, Nat.testBit_two_pow]
  cases k with
  | zero => simp
  | succ k =>
    rw [if_neg (by omega), Nat.testBit_succ, Nat.mul_div_cancel_left x (by omega), decide_eq_false (show ¬ 63 = k + 1 + 63 by omega), Bool.and_false, Bool.or_false]
    rfl

/-- a word with a bit more at place r, which is not set -/
def ins1 (x r : Nat) : Nat := (x &&& (2 ^ r - 1)) ||| (2 * (x &&& inv (2 ^ r - 1)) % 18446744073709551616)
theorem lt64_low {r : Nat} (hr : r < 64) : Lt64 (2 ^ r - 1) := by
  have := lt64_pow hr
  unfold Lt64 at *
  omega
theorem ins1_lt (x r : Nat) (hr : r < 64) : Lt64 (ins1 x r) := by
  unfold ins1
  refine lt64_or ?_ (Nat.mod_lt _ (by omega))
  exact Nat.lt_of_le_of_lt Nat.and_le_right (lt64_low hr)
theorem ins1_bit (x r : Nat) (hr : r < 64) (k : Nat) (hk : k < 64) : (ins1 x r).testBit k = if k < r then x.testBit k else if k = r then false else x.testBit (k - 1) := by
  unfold ins1
  rw [Nat.testBit_or, Nat.testBit_and, ones_bit, show (18446744073709551616 : Nat) = 2 ^ 64 from by decide, Nat.testBit_mod_two_pow, decide_eq_true hk, Bool.true_and]
  cases k with
  | zero =>
    have e : (2 * (x &&& inv (2 ^ r - 1))).testBit 0 = false := by
      rw [Nat.testBit_zero, decide_eq_false]
      omega
    rw [e, Bool.or_false]
    by_cases h : 0 < r
    · rw [if_pos h, decide_eq_true h, Bool.and_true]
    · rw [if_neg h, if_pos (by omega), decide_eq_false h, Bool.and_false]
  | succ k =>
    have e : (2 * (x &&& inv (2 ^ r - 1))).testBit (k + 1) = (x &&& inv (2 ^ r - 1)).testBit k := by rw [Nat.testBit_succ, Nat.mul_div_cancel_left _ (by omega)]
    rw [e, Nat.testBit_and, inv_bit (lt64_low hr) (by omega), ones_bit]
    by_cases h : k + 1 < r
    · rw [if_pos h, decide_eq_true h, decide_eq_true (show k < r by omega)]; simp
    · rw [if_neg h, decide_eq_false h]
      by_cases h2 : k + 1 = r
      · rw [if_pos h2, decide_eq_true (show k < r by omega)]; simp
      · rw [if_neg h2, decide_eq_false (show ¬ k < r by omega)]; simp
theorem low_eq {r : Nat} (hr : r < 64) : IntKind.u64.wrap (IntKind.u64.wrap (2 ^ r) - 1) = ((2 ^ r - 1 : Nat) : Int) := by
  have h1 : (2 : Int) ^ r = ((2 ^ r : Nat) : Int) := by rw [Int.natCast_pow]; rfl
  have h2 := lt64_pow hr
  have hp : 0 < 2 ^ r := Nat.two_pow_pos _
  unfold Lt64 at h2
  rw [h1, IntKind.wrap_u64, IntKind.wrap_u64]
  generalize 2 ^ r = y at *
  omega
theorem insert_rep {o : O} {b : List Bool} {ws : List Nat} {i : Nat} (hr : o.rep (grow b (b.length + 1))) (hi : i < b.length) (h : ∀ j, bit ws j = if j < i then bit o.ws j else if j = i then false else bit o.ws (j - 1)) : (o.having ws).rep (insertL b i) := by
  have hl := hr.len
  have hm := hr.fit
  have hgl : (grow b (b.length + 1)).length = b.length + 1 := by rw [grow_len]; omega
  rw [hgl] at hl hm
  refine ⟨by rw [insertL_len _ _ (by omega)]; exact hl, by rw [insertL_len _ _ (by omega)]; exact hm, fun j => ?_⟩
  show bit ws j = _
  rw [h j, insertL_get _ _ _ (by omega), hr.bits, hr.bits, grow_get, grow_get]

set_option maxRecDepth 100000 in
set_option maxHeartbeats 6400000 in
theorem insertAt (o : O) (b : List Bool) (i : Nat) (w : World) (h : o.ok w) (hr : o.rep b) (hi : i < b.length) (hbn : b.length ≤ 1048000) :
    Calls Try.prog 25 #[o.ptr, .int .u64 (i : Int)] w fun e w' => e = .returned o.ptr ∧ Upd o (insertL b i) w w' := by
  obtain ⟨c0, c1, f0, f1⟩ := h.cells
  rw [hr.len] at c0
  obtain ⟨q, hq⟩ : ∃ q, i / 64 = q := ⟨_, rfl⟩
  obtain ⟨r, hrr⟩ : ∃ r, i % 64 = r := ⟨_, rfl⟩
  have eq : (i : Int) / 64 = (q : Int) := by omega
  have hlt : ¬ (b.length : Int) ≤ (i : Int) := by omega
  have HEX := Lib.hid (extendSet o b b.length w h hr (by omega) (by omega))
  have HI : Hid (∀ wx, Calls Try.prog 39 #[.int .u64 (i : Int)] wx fun e w' => e = .returned (.int .u64 (r : Int)) ∧ wx = w') := Lib.hid (fun wx => by
    have := wordsIndex i (by omega) wx
    rw [hrr] at this
    exact this.mono fun e w' ⟨he, hw⟩ => ⟨he, hw.symm⟩)
  clear h hr
  unfold O.ptr at *
  go_enter Try.func25, Try.ntmps25
  go_wp2_with fail
  refine HEX.out.mono ?_
  rintro e w1 ⟨rfl, o1, hp1, hok1, hr1, hm1, hO1, hfr1⟩
  have HUP : Hid (∀ w', Upd o1 (insertL b i) w1 w' → Upd o (insertL b i) w w') := Lib.hid (fun w' hu => upd_trans hp1 hO1 hfr1 hu)
  obtain ⟨bb, hbb, -⟩ := hok1.facts
  have H : Hid ((o1.having o1.ws).ok w1) := Lib.hid hok1
  clear c0 c1 f0 f1 HEX
  obtain ⟨c0, c1, f0, f1, hcs, hfr, hp, hbl, hne⟩ := having_facts H.out hbb
  rw [hp1] at c0 c1 f0 f1 hne hp
  have hroom := hr1.room
  have hlen := having_len H.out
  have HBB := Lib.hid hbb
  have HL := Lib.hid hlen
  have HP1 := Lib.hid hp1
  have HR1 := Lib.hid hr1
  have HM1 := Lib.hid hm1
  have hmm : q < o1.m := by omega
  have hm0 : 1 ≤ o1.m := by omega
  have hm2 : o1.m ≤ 20000 := by omega
  have hwm : IntKind.u64.wrap ((o1.m : Int) - 1) = (o1.m : Int) - 1 := by rw [IntKind.wrap_u64]; omega
  clear hlen hbb hp1 hr1 hm1 hO1 hfr1 hok1 hcs hfr
  go_wp2_with fail
  go_loopw [6] (fun s wr => ∃ (k : Nat) (ws : List Nat), q ≤ k ∧ k < o1.m ∧ s = .int .u64 (k : Int) ∧ Hid ((o1.having ws).ok wr ∧ (∀ j, bit ws j = if 64 * (k + 1) ≤ j then bit o1.ws (j - 1) else bit o1.ws j) ∧ Only o1.foot w1 wr)) (fun s _ => (intOf s).toNat - q)
  case atStart =>
    refine ⟨o1.m - 1, o1.ws, by omega, by omega, by rw [show ((o1.m - 1 : Nat) : Int) = (o1.m : Int) - 1 by omega], Lib.hid ⟨H.out, fun j => ?_, Only.refl _ _⟩⟩
    by_cases hj : 64 * (o1.m - 1 + 1) ≤ j
    · rw [if_pos hj, HR1.out.bits, HR1.out.bits, grow_get, grow_get]
      have h1 : (grow b (b.length + 1)).length = b.length + 1 := by rw [grow_len]; omega
      rw [h1] at hroom
      simp [show b.length ≤ j by omega, show b.length ≤ j - 1 by omega]
    · rw [if_neg hj]
  case round =>
    obtain ⟨k, ws, hk1, hk2, rfl, hrel⟩ := hrel
    clear c0 c1 f0 f1
    obtain ⟨c0, c1, f0, f1, hcs, hfr, hp', hbl', -⟩ := having_facts hrel.out.1 HBB.out
    rw [HP1.out] at c0 c1 f0 f1
    have HL2 := Lib.hid (having_len hrel.out.1)
    by_cases hlt2 : q < k
    · have hlt' : (q : Int) < (k : Int) := by omega
      have hkm : (k : Int) < (o1.m : Int) := by omega
      have t1 : ((k : Int) - 1).toNat = k - 1 := by omega
      have t2 : (0 : Int) ≤ (k : Int) - 1 := by omega
      have t3 : (k : Int) - 1 < (o1.m : Int) := by omega
      have t4 : k - 1 ≠ k := by omega
      have t5 : k ≠ k - 1 := by omega
      have ck := hcs k (by omega)
      have cj := hcs (k - 1) (by omega)
      have fk := hfr k
      have HWx : Hid (Lt64 (ws.getD k 0)) := Lib.hid (hrel.out.1.fits.at k)
      have HWz : Hid (Lt64 (ws.getD (k - 1) 0)) := Lib.hid (hrel.out.1.fits.at (k - 1))
      clear hcs hfr
      have HNX : Hid (∀ x z X2 : Nat, x = ws.getD k 0 → z = ws.getD (k - 1) 0 → (∀ j, bit ((ws.set k X2).set k (shl1 x z)) j = if 64 * (k - 1 + 1) ≤ j then bit o1.ws (j - 1) else bit o1.ws j)) := Lib.hid (fun x z X2 hx hz j => by
        have hk : k - 1 + 1 = k := by omega
        have hl := HL2.out
        rw [hk, bit_set _ _ _ _ (by rw [List.length_set, hl]; exact hk2), bit_set _ _ _ _ (by rw [hl]; exact hk2)]
        have hrb := hrel.out.2.1
        by_cases hj : j / 64 = k
        · rw [if_pos hj, shl1_bit _ _ _ (Nat.mod_lt _ (by omega)), if_pos (show 64 * k ≤ j by omega)]
          have h2 := hrb (j - 1)
          rw [if_neg (show ¬ 64 * (k + 1) ≤ j - 1 by omega)] at h2
          rw [← h2]
          unfold bit
          by_cases h0 : j % 64 = 0
          · rw [if_pos h0, hz, show (j - 1) / 64 = k - 1 by omega, show (j - 1) % 64 = 63 by omega]
          · rw [if_neg h0, hx, show (j - 1) / 64 = k by omega, show (j - 1) % 64 = j % 64 - 1 by omega]
        · rw [if_neg hj, if_neg hj, hrb j]
          by_cases h1 : 64 * (k + 1) ≤ j
          · rw [if_pos h1, if_pos (by omega)]
          · rw [if_neg h1, if_neg (by omega)])
      have HS1 : Hid (∀ X2 : Nat, Lt64 X2 → ∀ wk, wk = wr.setCell ⟨bb, k, none⟩ (.int .u64 (X2 : Int)) → (o1.having (ws.set k X2)).ok wk ∧ Only o1.foot w1 wk ∧ (ws.set k X2).getD (k - 1) 0 = ws.getD (k - 1) 0 ∧ (ws.set k X2).getD k 0 = X2) := Lib.hid (fun X2 hX wk hwk => by
        subst hwk
        refine ⟨having_store hrel.out.1 HBB.out hk2 hX, hrel.out.2.2.setCell _ _ (fun _ => .inr (by rw [HBB.out]; rfl)), ?_, ?_⟩
        · simp only [List.getD_eq_getElem?_getD, List.getElem?_set_ne t5]
        · simp only [List.getD_eq_getElem?_getD]; rw [List.getElem?_set_self (by rw [HL2.out]; exact hk2)]; rfl)
      generalize ws.getD k 0 = x at *
      generalize ws.getD (k - 1) 0 = z at *
      have HNX := Lib.hid (fun X2 => HNX.out x z X2 rfl rfl)
      have hX2l : Lt64 (2 * x % 18446744073709551616) := Nat.mod_lt _ (by omega)
      have hYl := shl1_lt x z
      have e1 : IntKind.u64.wrap ((x : Int) * 2) = ((2 * x % 18446744073709551616 : Nat) : Int) := by rw [IntKind.wrap_u64]; omega
      have e2 : bits .and .u64 (z : Int) 9223372036854775808 = ((z &&& 9223372036854775808 : Nat) : Int) := and_nat (b := 9223372036854775808) HWz.out (by unfold Lt64; decide)
      have e3 : ((z &&& 9223372036854775808 : Nat) : Int) / 9223372036854775808 = (((z &&& 9223372036854775808) / 9223372036854775808 : Nat) : Int) := by omega
      have e4 : bits .or .u64 ((2 * x % 18446744073709551616 : Nat) : Int) (((z &&& 9223372036854775808) / 9223372036854775808 : Nat) : Int) = (shl1 x z : Int) := by
        refine or_nat (Nat.mod_lt _ (by omega)) ?_
        have : z &&& 9223372036854775808 ≤ 9223372036854775808 := Nat.and_le_right
        unfold Lt64
        omega
      generalize hX2 : 2 * x % 18446744073709551616 = X2 at *
      generalize hZ : z &&& 9223372036854775808 = Z at *
      generalize hC : Z / 9223372036854775808 = C at *
      generalize hY : shl1 x z = Y at *
      clear hX2 hZ hC hY
      obtain ⟨wk, hwk⟩ : ∃ wk, wk = wr.setCell ⟨bb, k, none⟩ (.int .u64 (X2 : Int)) := ⟨_, rfl⟩
      obtain ⟨h1, h2, h3, h4⟩ := HS1.out X2 hX2l wk hwk
      obtain ⟨d0, d1, g0, g1, dcs, dfr, -⟩ := having_facts h1 HBB.out
      rw [HP1.out] at d0 d1 g0 g1
      have dk := dcs k (by omega)
      have dj := dcs (k - 1) (by omega)
      have dfk := dfr k
      rw [h4] at dk
      rw [h3] at dj
      have HS2 := Lib.hid h1
      have HO2 := Lib.hid h2
      clear dcs dfr h1 h2 h3 h4 HS1
      go_wp2
      rw [← hwk]
      clear hwk c0 c1 f0 f1 ck cj fk
      have t7 : (1 : Int) ≤ (k : Int) := by omega
      have t8 : 1 ≤ k := by omega
      have t9 : (k : Int) < (o1.m : Int) + 1 := by omega
      have t10 : 0 < k := by omega
      have t6 : IntKind.u64.wrap ((k : Int) - 1) = (k : Int) - 1 := by rw [IntKind.wrap_u64]; omega
      refine wp_region_still_tail 19 (by kernel_rfl) (by kernel_rfl) ?_
      simp only [List.take_succ_cons, List.take_zero, List.drop_succ_cons, List.drop_zero]
      repeat still_step
      refine wpStill_nil ?_
      go_wp2
      go_roundw
      case rel => exact ⟨k - 1, (ws.set k X2).set k Y, by omega, by omega, by rw [show ((k - 1 : Nat) : Int) = (k : Int) - 1 by omega], Lib.hid ⟨(having_store HS2.out HBB.out hk2 hYl).of_heap rfl, HNX.out X2, (HO2.out.setCell _ _ (fun _ => .inr (by rw [HBB.out]; rfl))).drew⟩⟩
      case measure => simp [intOf]; omega
    · obtain rfl : k = q := by omega
      have hge : ¬ (k : Int) < (k : Int) := by omega
      have hkm : (k : Int) < (o1.m : Int) := by omega
      have ck := hcs k hmm
      have fk := hfr k
      have HWx : Hid (Lt64 (ws.getD k 0)) := Lib.hid (hrel.out.1.fits.at k)
      have hr64 : r < 64 := by omega
      have HFIN : Hid (∀ x X2 : Nat, x = ws.getD k 0 → Lt64 X2 → Upd o (insertL b i) w ((wr.setCell ⟨bb, k, none⟩ (.int .u64 (X2 : Int))).setCell ⟨bb, k, none⟩ (.int .u64 (ins1 x r : Int)))) := Lib.hid (fun x X2 hx hX => by
        have h1 := having_store (having_store hrel.out.1 HBB.out hmm hX) HBB.out hmm (ins1_lt x r hr64)
        refine HUP.out _ (having_upd h1 (insert_rep HR1.out hi ?_) ((hrel.out.2.2.setCell _ _ (fun _ => .inr (by rw [HBB.out]; rfl))).setCell _ _ (fun _ => .inr (by rw [HBB.out]; rfl))))
        intro j
        have hl := HL2.out
        rw [bit_set _ _ _ _ (by rw [List.length_set, hl]; exact hmm), bit_set _ _ _ _ (by rw [hl]; exact hmm)]
        have hrb := hrel.out.2.1
        by_cases hj : j / 64 = k
        · rw [if_pos hj, hx, ins1_bit _ _ hr64 _ (Nat.mod_lt _ (by omega))]
          by_cases c1 : j < i
          · rw [if_pos (show j % 64 < r by omega), if_pos c1]
            have := hrb j
            rw [if_neg (show ¬ 64 * (k + 1) ≤ j by omega)] at this
            rw [← this]
            unfold bit
            rw [hj]
          · rw [if_neg (show ¬ j % 64 < r by omega), if_neg c1]
            by_cases c2 : j = i
            · rw [if_pos (show j % 64 = r by omega), if_pos c2]
            · rw [if_neg (show ¬ j % 64 = r by omega), if_neg c2]
              have := hrb (j - 1)
              rw [if_neg (show ¬ 64 * (k + 1) ≤ j - 1 by omega)] at this
              rw [← this]
              unfold bit
              rw [show (j - 1) / 64 = k by omega, show (j - 1) % 64 = j % 64 - 1 by omega]
        · rw [if_neg hj, if_neg hj, hrb j]
          by_cases c1 : j < i
          · rw [if_neg (show ¬ 64 * (k + 1) ≤ j by omega), if_pos c1]
          · rw [if_pos (show 64 * (k + 1) ≤ j by omega), if_neg c1, if_neg (show ¬ j = i by omega)])
      clear hcs hfr
      generalize ws.getD k 0 = x at *
      have HF := Lib.hid (fun X2 => HFIN.out x X2 rfl)
      clear HFIN
      obtain ⟨DM, hDM⟩ : ∃ DM, 2 ^ r - 1 = DM := ⟨_, rfl⟩
      have g1 : IntKind.u64.wrap (IntKind.u64.wrap (2 ^ r) - 1) = (DM : Int) := by rw [← hDM]; exact low_eq hr64
      have hDl : Lt64 DM := by rw [← hDM]; exact lt64_low hr64
      have g2 : bits .xor .u64 IntKind.u64.max (DM : Int) = (inv DM : Int) := xor_max hDl
      have g3 : bits .and .u64 (x : Int) (DM : Int) = ((x &&& DM : Nat) : Int) := and_nat HWx.out hDl
      have g4 : bits .and .u64 (x : Int) (inv DM : Int) = ((x &&& inv DM : Nat) : Int) := and_nat HWx.out (lt64_inv DM)
      have g5 : IntKind.u64.wrap (((x &&& inv DM : Nat) : Int) * 2) = ((2 * (x &&& inv DM) % 18446744073709551616 : Nat) : Int) := by rw [IntKind.wrap_u64]; omega
      have hxl : Lt64 (x &&& DM) := lt64_and HWx.out
      have g6 : bits .or .u64 ((x &&& DM : Nat) : Int) ((2 * (x &&& inv DM) % 18446744073709551616 : Nat) : Int) = (ins1 x r : Int) := by
        have := or_nat hxl (show Lt64 (2 * (x &&& inv DM) % 18446744073709551616) from Nat.mod_lt _ (by omega))
        rw [this]
        unfold ins1
        rw [hDM]
      have HF2 := Lib.hid (HF.out (x &&& DM) hxl)
      generalize 2 * (x &&& inv DM) % 18446744073709551616 = B1 at *
      generalize x &&& inv DM = B2 at *
      generalize x &&& DM = B3 at *
      generalize inv DM = B4 at *
      generalize ins1 x r = Y at *
      clear hDM HF
      go_wp2_with (go_at_call 39; (with_reducible refine (HI.out _).mono ?_); rintro e w1 ⟨rfl, rfl⟩)
      go_ret
      exact ⟨rfl, HF2.out⟩
end Go.Proofs.Ytgndpckcdageiaa.bs

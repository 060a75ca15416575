/-
  Bitsets: DeleteAt.
-/
import Derived.Test.YtgndpckcdageiaaBsInsert
import Derived.Test.YtgndpckcdageiaaBsOps2
namespace Go.Proofs.Ytgndpckcdageiaa.bs
open Go.RowKit Go.Proofs.Ytgndpckcdageiaa.base Go.Proofs.Ytgndpckcdageiaa.heap Go.Proofs.Ytgndpckcdageiaa.bit
set_option linter.unusedVariables false

/-- a word without the bit at place r: those behind it one place nearer -/
def del1 (x r : Nat) : Nat := (x &&& inv (inv (2 ^ r - 1))) ||| ((x &&& inv (2 ^ r - 1)) / 2 &&& inv (2 ^ r - 1))
theorem del1_lt (x r : Nat) : Lt64 (del1 x r) := by
  unfold del1
  exact lt64_or (Nat.lt_of_le_of_lt Nat.and_le_right (lt64_inv _)) (Nat.lt_of_le_of_lt Nat.and_le_right (lt64_inv _))
theorem inv_inv {x : Nat} (hx : Lt64 x) : inv (inv x) = x := by unfold inv; unfold Lt64 at hx; omega
theorem del1_bit (x r : Nat) (hx : Lt64 x) (hr : r < 64) (k : Nat) (hk : k < 64) : (del1 x r).testBit k = if k < r then x.testBit k else x.testBit (k + 1) := by
  unfold del1
  have e : ((x &&& inv (2 ^ r - 1)) / 2).testBit k = (x &&& inv (2 ^ r - 1)).testBit (k + 1) := by rw [Nat.testBit_succ]
  rw [inv_inv (lt64_low hr), Nat.testBit_or, Nat.testBit_and, Nat.testBit_and, e, Nat.testBit_and, ones_bit, inv_bit (lt64_low hr) hk, ones_bit]
  by_cases h64 : k + 1 < 64
  · rw [inv_bit (lt64_low hr) h64, ones_bit]
    by_cases h : k < r
    · rw [if_pos h, decide_eq_true h]; simp
    · rw [if_neg h, decide_eq_false h, decide_eq_false (show ¬ k + 1 < r by omega)]; simp
  · rw [testBit_far (k := k + 1) hx (by omega)]
    by_cases h : k < r
    · rw [if_pos h, decide_eq_true h]; simp
    · rw [if_neg h, decide_eq_false h]; simp
/-- the first bit of the next word, put on top -/
def top1 (y x : Nat) : Nat := y ||| ((x &&& 1) * 9223372036854775808 % 18446744073709551616)
theorem top1_lt {y : Nat} (hy : Lt64 y) (x : Nat) : Lt64 (top1 y x) := lt64_or hy (Nat.mod_lt _ (by omega))
theorem top1_bit (y x k : Nat) (hk : k < 64) : (top1 y x).testBit k = (y.testBit k || (decide (k = 63) && x.testBit 0)) := by
  unfold top1
  rw [Nat.testBit_or, show (18446744073709551616 : Nat) = 2 ^ 64 from by decide, Nat.testBit_mod_two_pow, decide_eq_true hk, Bool.true_and, show (9223372036854775808 : Nat) = 2 ^ 63 from by decide, ← Nat.shiftLeft_eq, Nat.testBit_shiftLeft, Nat.testBit_and]
  congr 1
  by_cases h : k = 63
  · subst h; simp
  · rw [decide_eq_false (show ¬ k ≥ 63 by omega), decide_eq_false h]; simp

theorem setlen {o : O} {w : World} (h : o.ok w) (n : Nat) : ({ o with n := n } : O).ok (w.setCell ⟨o.p, 0, none⟩ (.int .u64 (n : Int))) :=
  ⟨setCell_heap h.obj 0 _, h.own.keep (S := fun k => k = o.p) ((Only.refl _ w).setCell _ _ (fun _ => rfl)) (fun k hk e => h.apart (e ▸ hk)), h.len, h.fits, h.apart, h.made⟩
theorem Own.cut {e : TypeId} {w : World} {a : Option Addr} {n cap : Nat} {xs : List Value} (h : Own e 1 w a n cap xs) (k : Nat) (hk : k ≤ n) : Own e 1 w a k cap (xs.take k) := by
  refine ⟨by rw [List.length_take, h.len]; omega, Nat.le_trans hk h.le, h.max, fun u hu => h.one u (List.mem_of_mem_take hu), ?_⟩
  rcases h.alt with hh | ⟨b, cur, ha, hb, hs, ht⟩
  · exact .inl hh
  · exact .inr ⟨b, cur, ha, hb, hs, by rw [← ht, List.take_take]; congr 1; omega⟩
theorem setset {o : O} {w : World} (h : o.ok w) (k : Nat) (hk : k ≤ o.m) : ({ o with m := k, ws := o.ws.take k } : O).ok (w.setCell ⟨o.p, 1, none⟩ (.slice o.a k o.cap)) := by
  have h1 := (Own.cut h.own k hk).keep (S := fun j => j = o.p) ((Only.refl _ w).setCell ⟨o.p, 1, none⟩ (.slice o.a k o.cap) (fun _ => rfl)) (fun j hj e => h.apart (e ▸ hj))
  have h2 : (U o.ws).take k = U (o.ws.take k) := by unfold U; rw [List.map_take]
  rw [h2] at h1
  exact ⟨setCell_heap h.obj 1 _, h1, by show (o.ws.take k).length = k; rw [List.length_take, h.len]; omega, fun x hx => h.fits x (List.mem_of_mem_take hx), h.apart, h.made⟩

/-- the words in the course of a deletion -/
def Near (ws0 ws : List Nat) (i k : Nat) : Prop := ∀ j, bit ws j = if j < i then bit ws0 j else if j + 1 < 64 * k then bit ws0 (j + 1) else if j + 1 = 64 * k then false else bit ws0 j
theorem Near.start {ws : List Nat} {i q r : Nat} (hq : i / 64 = q) (hr : i % 64 = r) (hl : q < ws.length) (hx : Lt64 (ws.getD q 0)) : Near ws (ws.set q (del1 (ws.getD q 0) r)) i (q + 1) := by
  intro j
  rw [bit_set _ _ _ _ hl]
  by_cases hj : j / 64 = q
  · rw [if_pos hj, del1_bit _ _ hx (by omega) _ (Nat.mod_lt _ (by omega))]
    by_cases c1 : j < i
    · rw [if_pos c1, if_pos (show j % 64 < r by omega)]
      unfold bit; rw [hj]
    · rw [if_neg c1, if_neg (show ¬ j % 64 < r by omega)]
      by_cases c2 : j + 1 < 64 * (q + 1)
      · rw [if_pos c2]
        unfold bit
        rw [show (j + 1) / 64 = q by omega, show (j + 1) % 64 = j % 64 + 1 by omega]
      · rw [if_neg c2, if_pos (by omega), show j % 64 + 1 = 64 by omega]
        exact testBit_far hx (Nat.le_refl _)
  · rw [if_neg hj]
    by_cases c1 : j < i
    · rw [if_pos c1]
    · rw [if_neg c1, if_neg (show ¬ j + 1 < 64 * (q + 1) by omega), if_neg (show ¬ j + 1 = 64 * (q + 1) by omega)]
theorem Near.step {ws0 ws : List Nat} {i k : Nat} (h : Near ws0 ws i k) (hi : i < 64 * k) (hk : 1 ≤ k) (hl : k < ws.length) (hx : Lt64 (ws.getD k 0)) :
    Near ws0 ((ws.set (k - 1) (top1 (ws.getD (k - 1) 0) (ws.getD k 0))).set k (ws.getD k 0 / 2)) i (k + 1) := by
  intro j
  have hb : ∀ c, c < 64 → (ws.getD k 0).testBit c = bit ws0 (64 * k + c) := fun c hc => by
    have := h (64 * k + c)
    rw [if_neg (by omega), if_neg (by omega), if_neg (by omega)] at this
    rw [← this]
    unfold bit
    rw [show (64 * k + c) / 64 = k by omega, show (64 * k + c) % 64 = c by omega]
  rw [bit_set _ _ _ _ (by rw [List.length_set]; exact hl), bit_set _ _ _ _ (by omega)]
  by_cases hj : j / 64 = k
  · rw [if_pos hj, if_neg (show ¬ j < i by omega)]
    have e : (ws.getD k 0 / 2).testBit (j % 64) = (ws.getD k 0).testBit (j % 64 + 1) := by rw [Nat.testBit_succ]
    rw [e]
    by_cases c2 : j + 1 < 64 * (k + 1)
    · rw [if_pos c2, hb _ (by omega), show 64 * k + (j % 64 + 1) = j + 1 by omega]
    · rw [if_neg c2, if_pos (by omega), show j % 64 + 1 = 64 by omega]
      exact testBit_far hx (Nat.le_refl _)
  · rw [if_neg hj]
    by_cases hj2 : j / 64 = k - 1
    · rw [if_pos hj2, top1_bit _ _ _ (Nat.mod_lt _ (by omega))]
      have e1 : (ws.getD (k - 1) 0).testBit (j % 64) = bit ws j := by unfold bit; rw [hj2]
      rw [e1, h j]
      by_cases c1 : j < i
      · rw [if_pos c1, if_pos c1]
        by_cases c3 : j % 64 = 63
        · omega
        · rw [decide_eq_false c3]; simp
      · rw [if_neg c1, if_neg c1, if_pos (show j + 1 < 64 * (k + 1) by omega)]
        by_cases c3 : j % 64 = 63
        · rw [if_neg (show ¬ j + 1 < 64 * k by omega), if_pos (show j + 1 = 64 * k by omega), decide_eq_true c3, hb 0 (by omega), show 64 * k + 0 = j + 1 by omega]; simp
        · rw [if_pos (show j + 1 < 64 * k by omega), decide_eq_false c3]; simp
    · rw [if_neg hj2, h j]
      by_cases c1 : j < i
      · rw [if_pos c1, if_pos c1]
      · rw [if_neg c1, if_neg c1]
        by_cases c2 : j + 1 < 64 * k
        · rw [if_pos c2, if_pos (by omega)]
        · rw [if_neg c2, if_neg (show ¬ j + 1 = 64 * k by omega), if_neg (show ¬ j + 1 < 64 * (k + 1) by omega), if_neg (show ¬ j + 1 = 64 * (k + 1) by omega)]
theorem Near.fin {ws0 ws : List Nat} {b : List Bool} {i m : Nat} (h : Near ws0 ws i m) (hi : i < b.length) (hm : b.length ≤ 64 * m) (hb : ∀ j, bit ws0 j = b.getD j false) : ∀ j, bit ws j = (deleteL b i).getD j false := by
  intro j
  rw [h j, deleteL_get _ _ _ hi]
  by_cases c1 : j < i
  · rw [if_pos c1, if_pos c1, hb]
  · rw [if_neg c1, if_neg c1]
    by_cases c2 : j + 1 < 64 * m
    · rw [if_pos c2, hb]
    · have h1 : b.getD (j + 1) false = false := by simp [show b.length ≤ j + 1 by omega]
      rw [if_neg c2, h1]
      by_cases c3 : j + 1 = 64 * m
      · rw [if_pos c3]
      · rw [if_neg c3, hb]
        simp [show b.length ≤ j by omega]

set_option maxRecDepth 100000 in
set_option maxHeartbeats 6400000 in
theorem deleteAt (o : O) (b : List Bool) (i : Nat) (w : World) (h : o.ok w) (hr : o.rep b) (hi : i < b.length) (hbn : b.length ≤ 1048000) (hmb : o.m ≤ 20000) :
    Calls Try.prog 26 #[o.ptr, .int .u64 (i : Int)] w fun e w' => e = .returned o.ptr ∧ Upd o (deleteL b i) w w' := by
  obtain ⟨bb, hbb, -⟩ := h.facts
  have H : Hid ((o.having o.ws).ok w) := Lib.hid h
  obtain ⟨c0, c1, f0, f1, hcs, hfr, hp, hbl, hne⟩ := having_facts H.out hbb
  rw [hr.len] at c0
  obtain ⟨q, hq⟩ : ∃ q, i / 64 = q := ⟨_, rfl⟩
  obtain ⟨r, hrr⟩ : ∃ r, i % 64 = r := ⟨_, rfl⟩
  have eq : (i : Int) / 64 = (q : Int) := by omega
  have hlt : ¬ (b.length : Int) ≤ (i : Int) := by omega
  have hr64 : r < 64 := by omega
  have HI : Hid (∀ wx, Calls Try.prog 39 #[.int .u64 (i : Int)] wx fun e w' => e = .returned (.int .u64 (r : Int)) ∧ wx = w') := Lib.hid (fun wx => by
    have := wordsIndex i (by omega) wx
    rw [hrr] at this
    exact this.mono fun e w' ⟨he, hw⟩ => ⟨he, hw.symm⟩)
  have hroom := hr.room
  have hlen := having_len H.out
  have HBB := Lib.hid hbb
  have HL := Lib.hid hlen
  have HR := Lib.hid hr
  have hqm : q < o.m := by omega
  have hqm' : (q : Int) < (o.m : Int) := by omega
  have cq := hcs q hqm
  have fq := hfr q
  have HWx : Hid (Lt64 (o.ws.getD q 0)) := Lib.hid (h.fits.at q)
  have HST : Hid (∀ x X2 : Nat, x = o.ws.getD q 0 → Lt64 X2 → ∀ wx, wx = (w.setCell ⟨bb, q, none⟩ (.int .u64 (X2 : Int))).setCell ⟨bb, q, none⟩ (.int .u64 (del1 x r : Int)) → (o.having ((o.ws.set q X2).set q (del1 x r))).ok wx ∧ Near o.ws ((o.ws.set q X2).set q (del1 x r)) i (q + 1) ∧ Only o.foot w wx) := Lib.hid (fun x X2 hx hX wx hwx => by
    subst hwx
    refine ⟨having_store (having_store H.out HBB.out hqm hX) HBB.out hqm (del1_lt x r), ?_, (((Only.refl o.foot w).setCell _ _ (fun _ => .inr (by rw [HBB.out]; rfl))).setCell _ _ (fun _ => .inr (by rw [HBB.out]; rfl)))⟩
    rw [List.set_set, hx]
    exact Near.start hq hrr (by rw [HL.out]; exact hqm) HWx.out)
  clear hcs hfr h hr hbb hlen
  generalize o.ws.getD q 0 = x at *
  have HST2 := Lib.hid (fun X2 => HST.out x X2 rfl)
  obtain ⟨DM, hDM⟩ : ∃ DM, 2 ^ r - 1 = DM := ⟨_, rfl⟩
  have g1 : IntKind.u64.wrap (IntKind.u64.wrap (2 ^ r) - 1) = (DM : Int) := by rw [← hDM]; exact low_eq hr64
  have hDl : Lt64 DM := by rw [← hDM]; exact lt64_low hr64
  have g2 : bits .xor .u64 IntKind.u64.max (DM : Int) = (inv DM : Int) := xor_max hDl
  have g2' : bits .xor .u64 IntKind.u64.max (inv DM : Int) = (inv (inv DM) : Int) := xor_max (lt64_inv _)
  have g3 : bits .and .u64 (x : Int) (inv (inv DM) : Int) = ((x &&& inv (inv DM) : Nat) : Int) := and_nat HWx.out (lt64_inv _)
  have g4 : bits .and .u64 (x : Int) (inv DM : Int) = ((x &&& inv DM : Nat) : Int) := and_nat HWx.out (lt64_inv DM)
  have hxl : Lt64 (x &&& inv (inv DM)) := lt64_and HWx.out
  have hxl2 : Lt64 (x &&& inv DM) := lt64_and HWx.out
  have g5 : ((x &&& inv DM : Nat) : Int) / 2 = (((x &&& inv DM) / 2 : Nat) : Int) := by omega
  have hxl3 : Lt64 ((x &&& inv DM) / 2) := Nat.lt_of_le_of_lt (Nat.div_le_self _ _) hxl2
  have g6 : bits .and .u64 (((x &&& inv DM) / 2 : Nat) : Int) (inv DM : Int) = (((x &&& inv DM) / 2 &&& inv DM : Nat) : Int) := and_nat hxl3 (lt64_inv DM)
  have g7 : bits .or .u64 ((x &&& inv (inv DM) : Nat) : Int) (((x &&& inv DM) / 2 &&& inv DM : Nat) : Int) = (del1 x r : Int) := by
    rw [or_nat hxl (lt64_and hxl3)]
    unfold del1
    rw [hDM]
  have HF2 := Lib.hid (HST2.out (x &&& inv (inv DM)) hxl)
  generalize (x &&& inv DM) / 2 &&& inv DM = B1 at *
  generalize (x &&& inv DM) / 2 = B2 at *
  generalize x &&& inv DM = B3 at *
  generalize x &&& inv (inv DM) = B4 at *
  generalize inv (inv DM) = B5 at *
  generalize inv DM = B6 at *
  generalize del1 x r = Y at *
  clear hDM HST HST2 hxl3
  unfold O.ptr at *
  go_enter Try.func26, Try.ntmps26
  go_wp2_with (go_at_call 39; (with_reducible refine (HI.out _).mono ?_); rintro e w1 ⟨rfl, rfl⟩)
  go_loopw [8] (fun s wr => ∃ (k : Nat) (ws : List Nat), q + 1 ≤ k ∧ k ≤ o.m ∧ s = .int .i64 (k : Int) ∧ Hid ((o.having ws).ok wr ∧ Near o.ws ws i k ∧ Only o.foot w wr)) (fun s _ => o.m - (intOf s).toNat)
  case atStart => exact ⟨q + 1, _, Nat.le_refl _, hqm, by go_num, Lib.hid (HF2.out _ rfl)⟩
  case round =>
    obtain ⟨k, ws, hk1, hk2, rfl, hrel⟩ := hrel
    clear c0 c1 f0 f1 cq fq HF2 g1 g2 g2' g3 g4 g5 g6 g7
    obtain ⟨c0, c1, f0, f1, hcs, hfr, hp', hbl', -⟩ := having_facts hrel.out.1 HBB.out
    have HL2 := Lib.hid (having_len hrel.out.1)
    by_cases hlt2 : k < o.m
    · have hlt' : (k : Int) < (o.m : Int) := by omega
      have t1 : ((k : Int) - 1).toNat = k - 1 := by omega
      have t2 : (0 : Int) ≤ (k : Int) - 1 := by omega
      have t3 : (k : Int) - 1 < (o.m : Int) := by omega
      have t4 : k - 1 ≠ k := by omega
      have t5 : k ≠ k - 1 := by omega
      have t6 : IntKind.i64.wrap ((k : Int) - 1) = (k : Int) - 1 := by rw [IntKind.wrap_i64]; omega
      have t7 : (1 : Int) ≤ (k : Int) := by omega
      have t8 : 1 ≤ k := by omega
      have t9 : (k : Int) < (o.m : Int) + 1 := by omega
      have t10 : 0 < k := by omega
      have ck := hcs k (by omega)
      have cj := hcs (k - 1) (by omega)
      have fj := hfr (k - 1)
      have HWx : Hid (Lt64 (ws.getD k 0)) := Lib.hid (hrel.out.1.fits.at k)
      have HWy : Hid (Lt64 (ws.getD (k - 1) 0)) := Lib.hid (hrel.out.1.fits.at (k - 1))
      have HST : Hid (Near o.ws ((ws.set (k - 1) (top1 (ws.getD (k - 1) 0) (ws.getD k 0))).set k (ws.getD k 0 / 2)) i (k + 1)) := Lib.hid (hrel.out.2.1.step (by omega) t8 (by rw [HL2.out]; exact hlt2) HWx.out)
      have HS1 : Hid (∀ T : Nat, Lt64 T → ∀ wk, wk = (wr.setCell ⟨bb, k - 1, none⟩ (.int .u64 (T : Int))).drew → (o.having (ws.set (k - 1) T)).ok wk ∧ Only o.foot w wk ∧ (ws.set (k - 1) T).getD k 0 = ws.getD k 0) := Lib.hid (fun T hT wk hwk => by
        subst hwk
        refine ⟨(having_store hrel.out.1 HBB.out (by omega) hT).of_heap rfl, (hrel.out.2.2.setCell _ _ (fun _ => .inr (by rw [HBB.out]; rfl))).drew, ?_⟩
        simp only [List.getD_eq_getElem?_getD, List.getElem?_set_ne t4])
      clear hcs hfr
      generalize ws.getD k 0 = x at *
      generalize ws.getD (k - 1) 0 = y at *
      have e1 : bits .and .u64 (x : Int) 1 = ((x &&& 1 : Nat) : Int) := and_nat (b := 1) HWx.out (by unfold Lt64; decide)
      have e2 : IntKind.u64.wrap (((x &&& 1 : Nat) : Int) * 9223372036854775808) = (((x &&& 1) * 9223372036854775808 % 18446744073709551616 : Nat) : Int) := by rw [IntKind.wrap_u64]; omega
      have e3 : bits .or .u64 (y : Int) (((x &&& 1) * 9223372036854775808 % 18446744073709551616 : Nat) : Int) = (top1 y x : Int) := or_nat HWy.out (Nat.mod_lt _ (by omega))
      have e4 : (x : Int) / 2 = ((x / 2 : Nat) : Int) := by omega
      have hTl := top1_lt HWy.out x
      have hxl : Lt64 (x / 2) := Nat.lt_of_le_of_lt (Nat.div_le_self _ _) HWx.out
      generalize (x &&& 1) * 9223372036854775808 % 18446744073709551616 = B1 at *
      generalize x &&& 1 = B2 at *
      generalize top1 y x = T at *
      generalize x / 2 = X2 at *
      obtain ⟨wk, hwk⟩ : ∃ wk, wk = (wr.setCell ⟨bb, k - 1, none⟩ (.int .u64 (T : Int))).drew := ⟨_, rfl⟩
      obtain ⟨h1, h2, h3⟩ := HS1.out T hTl wk hwk
      obtain ⟨d0, d1, g0, g1, dcs, dfr, -⟩ := having_facts h1 HBB.out
      have dk := dcs k (by omega)
      have dfk := dfr k
      rw [h3] at dk
      have HS2 := Lib.hid h1
      have HO2 := Lib.hid h2
      clear dcs dfr h1 h2 h3 HS1
      go_wp2
      refine wp_region_still_tail 19 (by kernel_rfl) (by kernel_rfl) ?_
      simp only [List.take_succ_cons, List.take_zero, List.drop_succ_cons, List.drop_zero]
      repeat still_step
      refine wpStill_nil ?_
      go_upto_region 12 with (fail)
      rw [← hwk]
      clear hwk c0 c1 f0 f1 ck cj fj
      go_wp2
      go_roundw
      case rel => exact ⟨k + 1, _, by omega, by omega, by go_num, Lib.hid ⟨having_store HS2.out HBB.out hlt2 hxl, HST.out, HO2.out.setCell _ _ (fun _ => .inr (by rw [HBB.out]; rfl))⟩⟩
      case measure => simp [intOf]; omega
    · obtain rfl : k = o.m := by omega
      have hge : ¬ (o.m : Int) < (o.m : Int) := by omega
      have hwr : IntKind.u64.wrap ((b.length : Int) - 1) = (b.length : Int) - 1 := by rw [IntKind.wrap_u64]; omega
      have HN := Lib.hid (hrel.out.2.1.fin hi hroom HR.out.bits)
      have HRl := HR.out.len
      have hnc : ((b.length - 1 : Nat) : Int) = (b.length : Int) - 1 := by omega
      obtain ⟨c, hc⟩ : ∃ c, (b.length - 1 + 63) / 64 = c := ⟨_, rfl⟩
      have hcm : c ≤ o.m := by omega
      have H3 : Hid (∀ w3, w3 = wr.setCell ⟨o.p, 0, none⟩ (.int .u64 ((b.length : Int) - 1)) → ({ o.having ws with n := b.length - 1 } : O).ok w3 ∧ Calls Try.prog 41 #[.pointer (some ⟨o.p, 0, none⟩)] w3 (fun e w' => e = .returned (.int .i64 (c : Int)) ∧ w3 = w') ∧ Only o.foot w w3) := Lib.hid (fun w3 hw3 => by
        have h1 := setlen hrel.out.1 (b.length - 1)
        rw [hnc] at h1
        have h1' : ({ o.having ws with n := b.length - 1 } : O).ok w3 := by rw [hw3]; exact h1
        refine ⟨h1', ?_, by rw [hw3]; exact hrel.out.2.2.setCell _ _ (fun _ => .inl rfl)⟩
        have h2 := wordCount _ w3 h1' (show b.length - 1 ≤ 1048576 by omega)
        have h3 : ((b.length - 1 + 63) / 64) = c := hc
        refine h2.mono (fun e w' ⟨he, hw⟩ => ⟨?_, hw.symm⟩)
        rw [he]
        show Ending.returned (.int .i64 ((((b.length - 1) + 63) / 64 : Nat) : Int)) = _
        rw [h3])
      clear hcs hfr hnc
      go_upto_region 14 with (fail)
      obtain ⟨w3, hw3⟩ : ∃ w3, w3 = wr.setCell ⟨o.p, 0, none⟩ (.int .u64 ((b.length : Int) - 1)) := ⟨_, rfl⟩
      obtain ⟨hok3, hcall, hO3⟩ := H3.out w3 hw3
      rw [← hw3]
      clear hw3 c0 c1 f0 f1 H3 hwr
      obtain ⟨c0, c1, f0, f1⟩ := hok3.cells
      have c1' : w3.cell? ⟨o.p, 1, none⟩ = some (.slice (some ⟨bb, 0, none⟩) o.m o.cap) := by rw [← HBB.out]; exact c1
      have f1' : w3.frozen? ⟨o.p, 1, none⟩ = false := f1
      have HC := Lib.hid hcall
      have hcc : c ≤ o.cap := by have := hok3.own.bound; exact Nat.le_trans hcm this.1
      by_cases hcm2 : c < o.m
      · have hcm3 : (c : Int) < (o.m : Int) := by omega
        have HF : Hid (Upd o (deleteL b i) w (w3.setCell ⟨o.p, 1, none⟩ (.slice (some ⟨bb, 0, none⟩) c o.cap))) := Lib.hid (by
          have h4 := setset hok3 c hcm
          have h5 : (w3.setCell ⟨o.p, 1, none⟩ (.slice (some ⟨bb, 0, none⟩) c o.cap)) = (w3.setCell ⟨o.p, 1, none⟩ (.slice o.a c o.cap)) := by rw [HBB.out]
          rw [h5]
          refine ⟨⟨o.p, b.length - 1, o.a, c, o.cap, ws.take c⟩, rfl, h4, ⟨(deleteL_len b i hi).symm, ?_, fun j => ?_⟩, hO3.setCell _ _ (fun _ => .inl rfl), fun k hk => .inl hk⟩
          · show c = ((deleteL b i).length + 63) / 64
            rw [deleteL_len b i hi]; omega
          · show bit (ws.take c) j = _
            rw [show bit (ws.take c) j = if j / 64 < c then bit ws j else false from by
              unfold bit
              by_cases h : j / 64 < c
              · rw [if_pos h]; congr 1; simp [List.getElem?_take, h]
              · rw [if_neg h]
                have : (ws.take c).getD (j / 64) 0 = 0 := by simp [List.getElem?_take, h]
                rw [this]; simp]
            by_cases h : j / 64 < c
            · rw [if_pos h]; exact HN.out j
            · rw [if_neg h]
              have hl := deleteL_len b i hi
              simp [show (deleteL b i).length ≤ j by omega])
        clear hok3 hcall hO3 c0 c1 f0 f1
        go_wp2_with (go_at_call 41; (with_reducible refine HC.out.mono ?_); rintro e w1 ⟨rfl, rfl⟩)
        go_ret
        exact ⟨rfl, HF.out⟩
      · have hcm3 : ¬ (c : Int) < (o.m : Int) := by omega
        have HF : Hid (Upd o (deleteL b i) w w3) := Lib.hid ⟨⟨o.p, b.length - 1, o.a, o.m, o.cap, ws⟩, rfl, hok3, ⟨(deleteL_len b i hi).symm, by show o.m = ((deleteL b i).length + 63) / 64; rw [deleteL_len b i hi]; omega, HN.out⟩, hO3, fun k hk => .inl hk⟩
        clear hok3 hcall hO3 c0 c1 f0 f1
        go_wp2_with (go_at_call 41; (with_reducible refine HC.out.mono ?_); rintro e w1 ⟨rfl, rfl⟩)
        go_ret
        exact ⟨rfl, HF.out⟩
end Go.Proofs.Ytgndpckcdageiaa.bs

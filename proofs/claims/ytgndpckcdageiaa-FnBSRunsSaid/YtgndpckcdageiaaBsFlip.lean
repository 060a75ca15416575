/-
  Bitsets: FlipRange.
-/
import Derived.Test.YtgndpckcdageiaaBsRange
import Derived.StillTailTactics
namespace Go.Proofs.Ytgndpckcdageiaa.bs
open Go.RowKit Go.Proofs.Ytgndpckcdageiaa.base Go.Proofs.Ytgndpckcdageiaa.heap Go.Proofs.Ytgndpckcdageiaa.bit
set_option linter.unusedVariables false

theorem xor_inv {x : Nat} (hx : Lt64 x) : 18446744073709551615 ^^^ x = inv x := by
  apply Nat.eq_of_testBit_eq
  intro k
  rw [Nat.testBit_xor, all_bit]
  by_cases hk : k < 64
  · rw [inv_bit hx hk, decide_eq_true hk, Bool.true_xor]
  · rw [testBit_far hx (by omega), testBit_far (lt64_inv x) (by omega), decide_eq_false hk]; rfl
theorem xor_max {x : Nat} (hx : Lt64 x) : bits .xor .u64 IntKind.u64.max (x : Int) = (inv x : Int) := by
  rw [← xor_inv hx]
  exact xor_nat lt64_all hx
theorem xor_step {ws : List Nat} {q M : Nat} (A D : Nat → Bool) (hq : q < ws.length) (hA : ∀ j, bit ws j = A j) (hM : ∀ k, k < 64 → M.testBit k = D (64 * q + k)) (hD : ∀ j, j / 64 ≠ q → D j = false) : ∀ j, bit (ws.set q (ws.getD q 0 ^^^ M)) j = (A j ^^ D j) := by
  intro j
  rw [bit_set _ _ _ _ hq]
  by_cases h : j / 64 = q
  · rw [if_pos h, Nat.testBit_xor, hM _ (Nat.mod_lt _ (by omega)), ← hA j, show 64 * q + j % 64 = j from by omega]
    unfold bit
    rw [h]
  · rw [if_neg h, hD j h, Bool.xor_false, hA j]
theorem inv_step {ws : List Nat} {q : Nat} (A : Nat → Bool) (hq : q < ws.length) (hx : Lt64 (ws.getD q 0)) (hA : ∀ j, bit ws j = A j) : ∀ j, bit (ws.set q (inv (ws.getD q 0))) j = (A j ^^ decide (j / 64 = q)) := by
  intro j
  rw [bit_set _ _ _ _ hq]
  by_cases h : j / 64 = q
  · rw [if_pos h, inv_bit hx (Nat.mod_lt _ (by omega)), decide_eq_true h, Bool.xor_true, ← hA j]
    unfold bit
    rw [h]
  · rw [if_neg h, decide_eq_false h, Bool.xor_false, hA j]
theorem flip_rep {o : O} {b : List Bool} {ws : List Nat} {f t : Nat} (hr : o.rep b) (ht : t ≤ b.length) (h : ∀ j, bit ws j = (bit o.ws j ^^ decide (f ≤ j ∧ j < t))) : (o.having ws).rep (putL b f t 2) := by
  refine ⟨by rw [putL_len]; exact hr.len, by rw [putL_len]; exact hr.fit, fun j => ?_⟩
  show bit ws j = _
  rw [h j, putL_bit, hr.bits j]
  by_cases hj : j < b.length
  · rw [if_pos hj]
    by_cases c : f ≤ j ∧ j < t
    · rw [if_pos c, decide_eq_true c, Bool.xor_true]; rfl
    · rw [if_neg c, decide_eq_false c, Bool.xor_false]
  · rw [if_neg hj, decide_eq_false (by omega)]
    simp [Nat.le_of_not_lt hj]
/-- what is turned, up to word k -/
def Turned (ws0 ws : List Nat) (s f k : Nat) : Prop := ∀ j, bit ws j = ((bit ws0 j ^^ decide (64 * s ≤ j ∧ j < f)) ^^ decide (64 * s ≤ j ∧ j < 64 * k))
theorem Turned.step {ws0 ws : List Nat} {s f k : Nat} (h : Turned ws0 ws s f k) (hsk : s ≤ k) (hk : k < ws.length) (hx : Lt64 (ws.getD k 0)) : Turned ws0 (ws.set k (inv (ws.getD k 0))) s f (k + 1) := by
  intro j
  rw [inv_step _ hk hx h j, Bool.xor_assoc]
  congr 1
  by_cases c : j / 64 = k
  · rw [decide_eq_true c, decide_eq_false (by omega), decide_eq_true (by omega)]; rfl
  · rw [decide_eq_false c, Bool.xor_false, decide_eq_decide]
    omega
theorem Turned.last {ws0 ws : List Nat} {s f e t : Nat} (h : Turned ws0 ws s f e) (hs1 : 64 * s ≤ f) (hft : f < t) (he : 64 * e ≤ t) (hse : s ≤ e) {ws' : List Nat} (h' : ∀ j, bit ws' j = (bit ws j ^^ decide (64 * e ≤ j ∧ j < t))) : ∀ j, bit ws' j = (bit ws0 j ^^ decide (f ≤ j ∧ j < t)) := by
  intro j
  rw [h' j, h j, Bool.xor_assoc, Bool.xor_assoc]
  congr 1
  by_cases c1 : 64 * s ≤ j ∧ j < f
  · rw [decide_eq_true c1, decide_eq_false (show ¬ (f ≤ j ∧ j < t) by omega)]
    by_cases c2 : 64 * s ≤ j ∧ j < 64 * e
    · rw [decide_eq_true c2, decide_eq_false (show ¬ (64 * e ≤ j ∧ j < t) by omega)]; rfl
    · rw [decide_eq_false c2, decide_eq_true (show 64 * e ≤ j ∧ j < t by omega)]; rfl
  · rw [decide_eq_false c1, Bool.false_xor]
    by_cases c2 : 64 * s ≤ j ∧ j < 64 * e
    · rw [decide_eq_true c2, decide_eq_false (show ¬ (64 * e ≤ j ∧ j < t) by omega), decide_eq_true (show f ≤ j ∧ j < t by omega)]; rfl
    · rw [decide_eq_false c2, Bool.false_xor, decide_eq_decide]
      omega

set_option maxRecDepth 100000 in
set_option maxHeartbeats 6400000 in
/-- FlipRange -/
theorem flipRange_yes (o : O) (b : List Bool) (f t : Nat) (w : World) (h : o.ok w) (hr : o.rep b) (hft : f < t) (hbn : b.length ≤ 1048576) (ht2 : t ≤ 1048576) :
    Calls Try.prog 22 #[o.ptr, .int .u64 (f : Int), .int .u64 (t : Int)] w fun e w' => e = .returned o.ptr ∧ Upd o (putL (grow b t) f t 2) w w' := by
  have hft' : ¬ (t : Int) ≤ (f : Int) := by omega
  obtain ⟨bb0, hbb0, -⟩ := h.facts
  obtain ⟨s, hs⟩ : ∃ s, f / 64 = s := ⟨_, rfl⟩
  obtain ⟨e, he⟩ : ∃ e, t / 64 = e := ⟨_, rfl⟩
  have es : (f : Int) / 64 = (s : Int) := by omega
  have ee : (t : Int) / 64 = (e : Int) := by omega
  have hse : s ≤ e := by omega
  obtain ⟨FM, hFM⟩ : ∃ FM, 18446744073709551615 * 2 ^ (f % 64) % 18446744073709551616 = FM := ⟨_, rfl⟩
  obtain ⟨LM, hLM⟩ : ∃ LM, 18446744073709551615 / 2 ^ ((64 - t % 64) % 64) = LM := ⟨_, rfl⟩
  have m1 : Lt64 FM := by rw [← hFM]; exact lt64_hi _
  have m2 : Lt64 LM := by rw [← hLM]; exact lt64_lo _
  obtain ⟨r1, hr1⟩ : ∃ r1, f % 64 = r1 := ⟨_, rfl⟩
  obtain ⟨r2, hr2⟩ : ∃ r2, (64 - t % 64) % 64 = r2 := ⟨_, rfl⟩
  have HI : Hid (∀ wx, Calls Try.prog 39 #[.int .u64 (f : Int)] wx fun e w' => e = .returned (.int .u64 (r1 : Int)) ∧ w' = wx) := Lib.hid (fun wx => by
    have := wordsIndex f (by omega) wx
    rwa [hr1] at this)
  have HN : Hid (∀ wx, Calls Try.prog 39 #[.int .u64 (IntKind.u64.wrap (-(t : Int)))] wx fun e w' => e = .returned (.int .u64 (r2 : Int)) ∧ wx = w') := Lib.hid (fun wx => by
    have := neg_index t (by omega) ht2 wx
    rw [hr2] at this
    exact this.mono fun e w' ⟨he, hw⟩ => ⟨he, hw.symm⟩)
  have hr1b : r1 < 64 := by omega
  have hr2b : r2 < 64 := by omega
  have HI2 : Hid (∀ wx, Calls Try.prog 39 #[.int .u64 (r2 : Int)] wx fun e w' => e = .returned (.int .u64 (r2 : Int)) ∧ w' = wx) := Lib.hid (fun wx => by
    have := wordsIndex r2 (by omega) wx
    rwa [Nat.mod_eq_of_lt hr2b] at this)
  have ef : IntKind.u64.wrap (18446744073709551615 * 2 ^ r1) = (FM : Int) := by rw [hi_eq, ← hr1, hFM]
  have el : (18446744073709551615 : Int) / 2 ^ r2 = (LM : Int) := by rw [lo_eq, ← hr2, hLM]
  have HH : Hid (∀ k, k < 64 → (inv FM).testBit k = decide (64 * s ≤ 64 * s + k ∧ 64 * s + k < f)) := Lib.hid (fun k hk => by
    rw [inv_bit m1 hk, ← hFM, hi_bit _ _ hk, ← decide_not, decide_eq_decide]; omega)
  have HLo : Hid (∀ k, k < 64 → LM.testBit k = decide (64 * e ≤ 64 * e + k ∧ 64 * e + k < t) ∨ r2 = 0) := Lib.hid (fun k hk => by
    by_cases h0 : r2 = 0
    · exact .inr h0
    · left
      rw [← hLM, lo_bit, decide_eq_decide]; omega)
  have hs1 : 64 * s ≤ f := by omega
  have hs2 : f < 64 * (s + 1) := by omega
  have he1 : 64 * e ≤ t := by omega
  have he2 : t < 64 * (e + 1) := by omega
  have hr20 : r2 = 0 → t = 64 * e := by omega
  have hr21 : r2 ≠ 0 → 64 * e < t := by omega
  clear hFM hLM hr1 hr2 hs he
  obtain ⟨c0, c1, f0, f1⟩ := h.cells
  rw [hr.len] at c0
  have HG0 : Hid (t ≤ b.length → Grown o (grow b t) w w) := Lib.hid (fun ht => ⟨o, rfl, h, by rw [grow_of_le ht]; exact hr, Only.refl _ _, fun k hk => .inl hk⟩)
  have HEX : Hid (b.length < t → Calls Try.prog 38 #[.pointer (some ⟨o.p, 0, none⟩), .int .u64 ((t : Int) - 1)] w fun e w' => e = .returned (.tuple #[]) ∧ Grown o (grow b t) w w') := Lib.hid (fun ht => by
    have := extendSet o b (t - 1) w h hr (by omega) (by omega)
    rw [show ((t - 1 : Nat) : Int) = (t : Int) - 1 by omega] at this
    refine this.mono (fun e w' ⟨he, o1, h1, h2, h3, h4, h5, h6⟩ => ⟨he, o1, h1, h2, ?_, h5, h6⟩)
    rw [show t - 1 + 1 = t by omega] at h3
    exact h3)
  clear hr
  unfold O.ptr
  go_enter Try.func22, Try.ntmps22
  go_upto_if 21 with (fail)
  go_cut [25] (fun _ wx => Grown o (grow b t) w wx)
  case first =>
    by_cases ht : t ≤ b.length
    · have hnext : ¬ (b.length : Int) ≤ (t : Int) - 1 := by omega
      have HG := Lib.hid (HG0.out ht)
      go_wp2_with fail
      go_meet
      case rel => exact HG.out
    · have hnext : (b.length : Int) ≤ (t : Int) - 1 := by omega
      have HE := Lib.hid (HEX.out (by omega))
      go_wp2_with fail
      refine HE.out.mono ?_
      rintro e2 w2 ⟨rfl, hg⟩
      have HG := Lib.hid hg
      clear hg
      go_wp2_with fail
      go_meet
      case rel => exact HG.out
  case rest =>
    obtain ⟨o1, hp1, hok1, hr, hO1, hfr1⟩ := hcut
    have HUP : Hid (∀ w', Upd o1 (putL (grow b t) f t 2) wc w' → Upd o (putL (grow b t) f t 2) w w') := Lib.hid (fun w' hu => upd_trans hp1 hO1 hfr1 hu)
    obtain ⟨bb, hbb, -⟩ := hok1.facts
    have H : Hid ((o1.having o1.ws).ok wc) := Lib.hid hok1
    have hgl : t ≤ (grow b t).length := by rw [grow_len]; omega
    clear c0 c1 f0 f1 HG0 HEX
    obtain ⟨c0, c1, f0, f1, hcs, hfr, hp, hbl, hne⟩ := having_facts H.out hbb
    rw [hp1] at c0 c1 f0 f1 hne hp
    have hroom := hr.room
    have hlen := having_len H.out
    have HR := Lib.hid hr
    have HBB := Lib.hid hbb
    have HL := Lib.hid hlen
    have HP1 := Lib.hid hp1
    have HW : Hid (∀ i, Lt64 (o1.ws.getD i 0)) := Lib.hid (fun i => hok1.fits.at i)
    have hsm : s < o1.m := by omega
    have hem : e ≤ o1.m := by omega
    have hnc : ¬ o1.cap = s := by have := hok1.own.bound; omega
    have hec : e ≤ o1.cap := by have := hok1.own.bound; omega
    clear hlen hr hbb hp1 hok1 hO1 hfr1
    have cs := hcs s hsm
    have fs := hfr s
    have hsm' : (s : Int) < (o1.m : Int) := by omega
    have HWs := Lib.hid (HW.out s)
    have hiM := lt64_inv FM
    have HX : Hid (∀ x : Nat, x = o1.ws.getD s 0 → ∀ wx : World, wx.heap = (wc.setCell ⟨bb, s, none⟩ (.int .u64 ((x ^^^ inv FM : Nat) : Int))).heap → (o1.having (o1.ws.set s (x ^^^ inv FM))).ok wx ∧ Turned o1.ws (o1.ws.set s (x ^^^ inv FM)) s f s) := Lib.hid (fun x hx wx hwx => by
      subst hx
      refine ⟨(having_store H.out HBB.out hsm (lt64_xor HWs.out hiM)).of_heap hwx, fun j => ?_⟩
      rw [xor_step (bit o1.ws) (fun j => decide (64 * s ≤ j ∧ j < f)) (by rw [HL.out]; exact hsm) (fun j => rfl) HH.out (fun j hj => decide_eq_false (by omega)) j, decide_eq_false (show ¬ (64 * s ≤ j ∧ j < 64 * s) by omega), Bool.xor_false])
    have hO1 : Hid (∀ v n, Only o1.foot wc ((wc.setCell ⟨bb, s, none⟩ v).drewN n)) := Lib.hid (fun v n => ((Only.refl o1.foot wc).setCell _ _ (fun _ => .inr (by rw [HBB.out]; rfl))).drewN n)
    have e1 : bits .xor .u64 IntKind.u64.max (FM : Int) = (inv FM : Int) := xor_max m1
    clear hcs hfr
    generalize o1.ws.getD s 0 = x at *
    have e2 : bits .xor .u64 (x : Int) (inv FM : Int) = ((x ^^^ inv FM : Nat) : Int) := xor_nat HWs.out hiM
    have HXX := Lib.hid (HX.out x rfl)
    have hse' : (s : Int) ≤ (e : Int) := by omega
    have hem' : (e : Int) ≤ (o1.m : Int) := by omega
    have hts : ((s : Int)).toNat = s := by omega
    clear HX
    go_wp2
    refine wp_region_still_tail 13 (by kernel_rfl) (by kernel_rfl) ?_
    simp only [List.take_succ_cons, List.take_zero, List.drop_succ_cons, List.drop_zero]
    repeat still_step
    still_call (HI.out _)
    repeat still_step
    refine wpStill_nil ?_
    go_wp2
    go_loopw [9, 53] (fun _ i wr => ∃ (j : Nat) (ws : List Nat), j ≤ e - s ∧ i = .int .i64 (j : Int) ∧ Hid ((o1.having ws).ok wr ∧ Turned o1.ws ws s f (s + j) ∧ Only o1.foot wc wr)) (fun _ i _ => (e - s) - (intOf i).toNat)
    case atStart => exact ⟨0, _, Nat.zero_le _, rfl, Lib.hid ⟨(HXX.out (wc.setCell ⟨bb, s, none⟩ (.int .u64 ((x ^^^ inv FM : Nat) : Int))).drew rfl).1, (HXX.out (wc.setCell ⟨bb, s, none⟩ (.int .u64 ((x ^^^ inv FM : Nat) : Int))) rfl).2, hO1.out _ 1⟩⟩
    case round =>
      obtain ⟨j, ws, hj, rfl, hrel⟩ := hrel
      clear HXX hO1 cs fs c0 c1 f0 f1 e1 e2
      obtain ⟨c0, c1, f0, f1, hcs, hfr, hp', hbl', -⟩ := having_facts hrel.out.1 HBB.out
      rw [HP1.out] at c0 c1 f0 f1
      have HL2 := Lib.hid (having_len hrel.out.1)
      by_cases hlt : j < e - s
      · have hlt' : (j : Int) < ((e - s : Nat) : Int) := by omega
        have ck := hcs (s + j) (by omega)
        have fk := hfr (s + j)
        have HWy : Hid (Lt64 (ws.getD (s + j) 0)) := Lib.hid (hrel.out.1.fits.at (s + j))
        have HX : Hid (∀ x : Nat, x = ws.getD (s + j) 0 → ∀ wx : World, wx.heap = (wr.setCell ⟨bb, s + j, none⟩ (.int .u64 (inv x : Int))).heap → (o1.having (ws.set (s + j) (inv x))).ok wx ∧ Turned o1.ws (ws.set (s + j) (inv x)) s f (s + j + 1)) := Lib.hid (fun x hx wx hwx => by
          subst hx
          exact ⟨(having_store hrel.out.1 HBB.out (by omega) (lt64_inv _)).of_heap hwx, hrel.out.2.1.step (by omega) (by rw [HL2.out]; omega) HWy.out⟩)
        clear hcs hfr
        generalize ws.getD (s + j) 0 = y at *
        have e2 : bits .xor .u64 IntKind.u64.max (y : Int) = (inv y : Int) := xor_max HWy.out
        have HXX := Lib.hid (HX.out y rfl)
        have hO1 : Hid (∀ v n, Only o1.foot wc ((wr.setCell ⟨bb, s + j, none⟩ v).drewN n)) := Lib.hid (fun v n => (hrel.out.2.2.setCell _ _ (fun _ => .inr (by rw [HBB.out]; rfl))).drewN n)
        have t1 : IntKind.i64.wrap ((s : Int) + (j : Int)) = (s : Int) + (j : Int) := by rw [IntKind.wrap_i64]; omega
        have t2 : ((s : Int) + (j : Int)).toNat = s + j := by omega
        have t3 : (0 : Int) ≤ (s : Int) + (j : Int) := by omega
        have t4 : (s : Int) + (j : Int) < (o1.m : Int) := by omega
        clear HX
        go_wp2
        refine wp_region_still_tail 18 (by kernel_rfl) (by kernel_rfl) ?_
        simp only [List.take_succ_cons, List.take_zero, List.drop_succ_cons, List.drop_zero]
        repeat still_step
        refine wpStill_nil ?_
        go_wp2
        go_roundw
        case rel => exact ⟨j + 1, _, by omega, by go_num, Lib.hid ⟨(HXX.out (wr.setCell ⟨bb, s + j, none⟩ (.int .u64 (inv y : Int))).drew rfl).1, (HXX.out (wr.setCell ⟨bb, s + j, none⟩ (.int .u64 (inv y : Int))) rfl).2, hO1.out _ 1⟩⟩
        case measure => simp [intOf]; omega
      · obtain rfl : j = e - s := by omega
        have hge : ¬ ((e - s : Nat) : Int) < ((e - s : Nat) : Int) := by omega
        have HT : Hid (Turned o1.ws ws s f e) := Lib.hid (by have := hrel.out.2.1; rwa [show s + (e - s) = e from by omega] at this)
        by_cases hz : r2 = 0
        · have hz' : ((r2 : Int) != 0) = false := by rw [hz]; rfl
          have hz2 : (!((r2 : Int) == 0)) = false := by rw [hz]; rfl
          have HF : Hid (Upd o (putL (grow b t) f t 2) w wr) := Lib.hid (HUP.out _ (having_upd hrel.out.1 (flip_rep HR.out hgl (HT.out.last hs1 hft he1 hse (fun j => by
            have := hr20 hz
            rw [decide_eq_false (show ¬ (64 * e ≤ j ∧ j < t) by omega), Bool.xor_false]))) hrel.out.2.2))
          clear hcs hfr hz
          go_wp2_with (go_at_call 39; (with_reducible refine (HN.out _).mono ?_); rintro e w1 ⟨rfl, rfl⟩)
          go_ret
          exact ⟨rfl, HF.out⟩
        · have hz' : ((r2 : Int) != 0) = true := by rw [bne_iff_ne]; omega
          have hz2 : (!((r2 : Int) == 0)) = true := by rw [Bool.not_eq_true', beq_eq_false_iff_ne]; omega
          have hem2 : e < o1.m := by have := hr21 hz; omega
          have hem3 : (e : Int) < (o1.m : Int) := by omega
          have ck := hcs e hem2
          have fk := hfr e
          have HWy : Hid (Lt64 (ws.getD e 0)) := Lib.hid (hrel.out.1.fits.at e)
          have HX : Hid (∀ x : Nat, x = ws.getD e 0 → ∀ n, Upd o (putL (grow b t) f t 2) w ((wr.setCell ⟨bb, e, none⟩ (.int .u64 ((x ^^^ LM : Nat) : Int))).drewN n)) := Lib.hid (fun x hx n => by
            subst hx
            refine HUP.out _ (having_upd ((having_store hrel.out.1 HBB.out hem2 (lt64_xor HWy.out m2)).of_heap rfl) (flip_rep HR.out hgl (HT.out.last hs1 hft he1 hse ?_)) ((hrel.out.2.2.setCell _ _ (fun _ => .inr (by rw [HBB.out]; rfl))).drewN n))
            exact xor_step (bit ws) (fun j => decide (64 * e ≤ j ∧ j < t)) (by rw [HL2.out]; exact hem2) (fun j => rfl) (fun k hk => (HLo.out k hk).resolve_right hz) (fun j hj => decide_eq_false (by omega)))
          have t3 : (0 : Int) ≤ (e : Int) := by omega
          have t2 : ((e : Int)).toNat = e := by omega
          clear hcs hfr hz
          generalize ws.getD e 0 = y at *
          have e2 : bits .xor .u64 (y : Int) (LM : Int) = ((y ^^^ LM : Nat) : Int) := xor_nat HWy.out m2
          have HXX := Lib.hid (HX.out y rfl)
          clear HX
          go_wp2_with (go_at_call 39; (with_reducible refine (HN.out _).mono ?_); rintro e w1 ⟨rfl, rfl⟩)
          refine wp_region_still_tail 12 (by kernel_rfl) (by kernel_rfl) ?_
          simp only [List.take_succ_cons, List.take_zero, List.drop_succ_cons, List.drop_zero]
          repeat still_step
          still_call (HI2.out _)
          repeat still_step
          refine wpStill_nil ?_
          go_wp2
          go_ret
          exact ⟨rfl, HXX.out 1⟩
end Go.Proofs.Ytgndpckcdageiaa.bs

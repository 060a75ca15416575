/-
  Bitsets: InPlaceDifference; popcntMaskSlice, DifferenceCardinality.
-/
import Derived.Test.YtgndpckcdageiaaBsInter
import Derived.Test.YtgndpckcdageiaaBsCount
import Derived.Deep.RegionHeld3
namespace Go.Proofs.Ytgndpckcdageiaa.bs
open Go.RowKit Go.Proofs.Ytgndpckcdageiaa.base Go.Proofs.Ytgndpckcdageiaa.heap Go.Proofs.Ytgndpckcdageiaa.bit
set_option linter.unusedVariables false

set_option maxRecDepth 100000 in
set_option maxHeartbeats 3200000 in
theorem inPlaceDifference (o1 o2 : O) (b b2 : List Bool) (w : World) (h1 : o1.ok w) (h2 : o2.ok w) (r1 : o1.rep b) (r2 : o2.rep b2) (hdis : ∀ j, o1.foot j → ¬ o2.foot j) (hn : b.length ≤ 1048000) (hn2 : b2.length ≤ 1048000) :
    Calls Try.prog 29 #[o1.ptr, o2.ptr] w fun e w' => e = .returned (.tuple #[]) ∧ Upd o1 (twoL (fun x y => x && !y) b b2 b.length) w w' := by
  have H1 := Lib.hid h1
  have H2 := Lib.hid h2
  have R1 := Lib.hid r1
  have R2 := Lib.hid r2
  have HDIS := Lib.hid hdis
  obtain ⟨c1, hc1⟩ : ∃ c1, (b.length + 63) / 64 = c1 := ⟨_, rfl⟩
  obtain ⟨c2, hc2⟩ : ∃ c2, (b2.length + 63) / 64 = c2 := ⟨_, rfl⟩
  have HW1 : Hid (∀ wx, Same w wx → Calls Try.prog 41 #[.pointer (some ⟨o1.p, 0, none⟩)] wx fun e w' => e = .returned (.int .i64 (c1 : Int)) ∧ wx = w') := Lib.hid (fun wx hx => by
    have := wordCount o1 wx (h1.keep hx (fun _ _ => id)) (by rw [r1.len]; omega)
    rw [r1.len, hc1] at this
    exact this.mono fun e w' ⟨he, hw⟩ => ⟨he, hw.symm⟩)
  have HW2 : Hid (∀ wx, Same w wx → Calls Try.prog 41 #[.pointer (some ⟨o2.p, 0, none⟩)] wx fun e w' => e = .returned (.int .i64 (c2 : Int)) ∧ wx = w') := Lib.hid (fun wx hx => by
    have := wordCount o2 wx (h2.keep hx (fun _ _ => id)) (by rw [r2.len]; omega)
    rw [r2.len, hc2] at this
    exact this.mono fun e w' ⟨he, hw⟩ => ⟨he, hw.symm⟩)
  have hm1 : c1 ≤ o1.m := by have := r1.room; omega
  have hm2 : c2 ≤ o2.m := by have := r2.room; omega
  have hcb1 : c1 ≤ 20000 := by omega
  obtain ⟨L, hL⟩ : ∃ L, min c1 c2 = L := ⟨_, rfl⟩
  have hL1 : L ≤ c1 := by omega
  have hL2 : L ≤ c2 := by omega
  have hLl : b.length ≤ 64 * L ∨ b2.length ≤ 64 * L := by omega
  have HF : Hid (∀ ws wr, (o1.having ws).ok wr → WorkedD (fun x y => x && !y) o1.ws o2.ws (bit o1.ws) ws L → Only o1.foot w wr → Upd o1 (twoL (fun x y => x && !y) b b2 b.length) w wr) := Lib.hid (fun ws wr hok hwk hO => by
    refine having_upd hok ⟨by rw [twoL_len]; exact R1.out.len, by rw [twoL_len]; exact R1.out.fit, fun j => ?_⟩ hO
    show bit ws j = _
    rw [hwk j, twoL_get, R1.out.bits, R2.out.bits]
    by_cases c : j < b.length
    · rw [decide_eq_true c, Bool.true_and]
      by_cases c2 : j < 64 * L
      · rw [if_pos c2]
      · rw [if_neg c2]
        have : b2.getD j false = false := by simp [show b2.length ≤ j by omega]
        rw [this]; simp
    · have : b.getD j false = false := by simp [show b.length ≤ j by omega]
      rw [decide_eq_false c, this]; simp)
  generalize twoL (fun x y => x && !y) b b2 b.length = d at *
  obtain ⟨ab, hab, -⟩ := h1.facts
  obtain ⟨bb, hbb, -⟩ := h2.facts
  have HAB := Lib.hid hab
  have HBB := Lib.hid hbb
  have HOK : Hid ((o1.having o1.ws).ok w) := Lib.hid h1
  have hb2 := having_facts (o := o2) (ws := o2.ws) h2 hbb
  have ha2 := having_facts (o := o1) (ws := o1.ws) h1 hab
  obtain ⟨s0, s1, sf0, sf1, scs, sfr, sp, sbl, sne⟩ := ha2
  obtain ⟨t0, t1, tf0, tf1, tcs, tfr, tp, tbl, tne⟩ := hb2
  have HSC := Lib.hid scs
  have HTC := Lib.hid tcs
  clear h1 h2 r1 r2 hc2 hc1 hab hbb hdis scs sfr tcs tfr
  have hLu : L ≤ 20000 := by omega
  have hcase : (c2 > c1 ∧ L = c1) ∨ (¬ c2 > c1 ∧ L = c2) := by omega
  clear hL
  rcases hcase with ⟨hgt, rfl⟩ | ⟨hgt, rfl⟩
  all_goals
    by_cases h0 : 0 < L
    · have z1 := HSC.out (L - 1) (by omega)
      have z2 := HTC.out (L - 1) (by omega)
      have zi : ((L : Int) - 1).toNat = L - 1 := by omega
      have zj : (L : Int) - 1 < (o1.m : Int) := by omega
      have zk : (L : Int) - 1 < (o2.m : Int) := by omega
      have zl : (0 : Int) ≤ (L : Int) - 1 := by omega
      have zm : ¬ (L : Int) ≤ 0 := by omega
      have zn : ¬ L = 0 := by omega
      have hgt' := hgt
      generalize o1.ws.getD (L - 1) 0 = u1 at *
      generalize o2.ws.getD (L - 1) 0 = u2 at *
      unfold O.ptr at *
      go_enter Try.func29, Try.ntmps29
      go_wp2_with (first | (go_at_call 43; (with_reducible refine (notNil2 _ _).mono ?_); rintro e w1 ⟨rfl, rfl⟩) | (go_at_call 41; (with_reducible refine (HW1.out _ (Only.refl _ _)).mono ?_); rintro e w1 ⟨rfl, rfl⟩) | (go_at_call 41; (with_reducible refine (HW2.out _ (Only.refl _ _)).mono ?_); rintro e w1 ⟨rfl, rfl⟩))
      go_region_held3 (fun w' => w'.cell? ⟨o1.p, 1, none⟩ = some (.slice (some ⟨ab, 0, none⟩) o1.m o1.cap) ∧ w'.cell? ⟨o2.p, 1, none⟩ = some (.slice (some ⟨bb, 0, none⟩) o2.m o2.cap)) (go_keep) (fail)
      go_wp2
      clear s0 s1 sf0 sf1 sp sbl sne t0 t1 tf0 tf1 tp tbl tne z1 z2 zi zj zk zl zm
      go_loopw [7] (fun i wr => ∃ (k : Nat) (ws : List Nat), k ≤ L ∧ i = .int .i64 (k : Int) ∧ Hid ((o1.having ws).ok wr ∧ WorkedD (fun x y => x && !y) o1.ws o2.ws (bit o1.ws) ws k ∧ Only o1.foot w wr ∧ ∀ j, k ≤ j → ws.getD j 0 = o1.ws.getD j 0)) (fun i _ => L - (intOf i).toNat)
      case atStart => exact ⟨0, o1.ws, Nat.zero_le _, rfl, Lib.hid ⟨HOK.out.of_heap rfl, fun j => by rw [if_neg (by omega)], by repeat (first | exact Only.refl _ _ | apply Only.drew | apply Only.drewN), fun _ _ => rfl⟩⟩
      case round =>
        obtain ⟨k, ws, hk, rfl, hrel⟩ := hrel
        have HL2 := Lib.hid (having_len hrel.out.1)
        by_cases hlt : k < L
        · have hlt' : (k : Int) < (L : Int) := by omega
          obtain ⟨a0, a1, af0, af1, acs, afr, ap, abl, ane⟩ := having_facts hrel.out.1 HAB.out
          obtain ⟨b0, b1, bf0, bf1, bcs, bfr, bp, bbl, bne⟩ := having_facts (o := o2) (ws := o2.ws) (H2.out.keep hrel.out.2.2.1 (fun j hj hh => HDIS.out j hh hj)) HBB.out
          have ak := acs k (by omega)
          have bk := bcs k (by omega)
          have fk := afr k
          have hka : (k : Int) < (o1.m : Int) := by omega
          have hkb : (k : Int) < (o2.m : Int) := by omega
          have HWb : Hid (Lt64 (o2.ws.getD k 0)) := Lib.hid (H2.out.fits.at k)
          have HWa : Hid (Lt64 (o1.ws.getD k 0)) := Lib.hid (H1.out.fits.at k)
          rw [hrel.out.2.2.2 k (Nat.le_refl _)] at ak
          have HST : Hid (∀ x y : Nat, x = o1.ws.getD k 0 → y = o2.ws.getD k 0 → (o1.having (ws.set k (anot x y))).ok (wr.setCell ⟨ab, k, none⟩ (.int .u64 (anot x y : Int))).drew ∧ WorkedD (fun x y => x && !y) o1.ws o2.ws (bit o1.ws) (ws.set k (anot x y)) (k + 1) ∧ Only o1.foot w (wr.setCell ⟨ab, k, none⟩ (.int .u64 (anot x y : Int))).drew ∧ ∀ j, k + 1 ≤ j → (ws.set k (anot x y)).getD j 0 = o1.ws.getD j 0) := Lib.hid (fun x y hx hy => by
            subst hx hy
            exact ⟨(having_store hrel.out.1 HAB.out (by omega) (anot_lt HWa.out)).of_heap rfl, hrel.out.2.1.step (by rw [HL2.out]; omega) (fun c hc => anot_bit HWa.out HWb.out c hc), (hrel.out.2.2.1.setCell _ _ (fun _ => .inr (by rw [HAB.out]; rfl))).drew, fun j hj => by rw [← hrel.out.2.2.2 j (by omega)]; simp only [List.getD_eq_getElem?_getD]; rw [List.getElem?_set_ne (by omega)]⟩)
          clear acs afr bcs bfr
          generalize o1.ws.getD k 0 = x at *
          generalize o2.ws.getD k 0 = y at *
          have e1 : bits .andNot .u64 (x : Int) (y : Int) = (anot x y : Int) := anot_eq HWa.out HWb.out
          have HN := Lib.hid (HST.out x y rfl rfl)
          generalize anot x y = X at *
          clear HST
          go_wp2
          refine wp_region_still_tail 10 (by kernel_rfl) (by kernel_rfl) ?_
          simp only [List.take_succ_cons, List.take_zero, List.drop_succ_cons, List.drop_zero]
          repeat still_step
          refine wpStill_nil ?_
          go_wp2
          go_roundw
          case rel => exact ⟨k + 1, _, by omega, by go_num, Lib.hid HN.out⟩
          case measure => simp [intOf]; omega
        · obtain rfl : k = L := by omega
          have hge : ¬ (k : Int) < (k : Int) := by omega
          have HFIN : Hid (Upd o1 d w wr) := Lib.hid (HF.out ws wr hrel.out.1 hrel.out.2.1 hrel.out.2.2.1)
          go_wp2
          go_end0
          exact ⟨rfl, HFIN.out⟩
    · have zm : (L : Int) ≤ 0 := by omega
      have zn : L = 0 := by omega
      have HFIN : Hid (Upd o1 d w w) := Lib.hid (HF.out o1.ws w HOK.out (fun j => by rw [if_neg (by omega)]) (Only.refl _ _))
      have hgt' := hgt
      unfold O.ptr at *
      go_enter Try.func29, Try.ntmps29
      go_wp2_with (first | (go_at_call 43; (with_reducible refine (notNil2 _ _).mono ?_); rintro e w1 ⟨rfl, rfl⟩) | (go_at_call 41; (with_reducible refine (HW1.out _ (Only.refl _ _)).mono ?_); rintro e w1 ⟨rfl, rfl⟩) | (go_at_call 41; (with_reducible refine (HW2.out _ (Only.refl _ _)).mono ?_); rintro e w1 ⟨rfl, rfl⟩))
      refine bodyPost_ret (v := .tuple #[]) ?_ rfl ⟨rfl, HFIN.out⟩
      simp [results, Try.results29, go_sem]
end Go.Proofs.Ytgndpckcdageiaa.bs

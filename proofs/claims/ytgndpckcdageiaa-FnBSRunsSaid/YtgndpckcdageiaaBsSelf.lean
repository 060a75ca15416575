/-
  A bitset with itself: InPlaceUnion, InPlaceDifference, InPlaceSymmetricDifference. Printed by a program of mine.
-/
import Derived.Test.YtgndpckcdageiaaBsDiff
import Derived.Test.YtgndpckcdageiaaBsUn
namespace Go.Proofs.Ytgndpckcdageiaa.bs
open Go.RowKit Go.Proofs.Ytgndpckcdageiaa.base Go.Proofs.Ytgndpckcdageiaa.heap Go.Proofs.Ytgndpckcdageiaa.bit
set_option linter.unusedVariables false
set_option maxRecDepth 100000 in
set_option maxHeartbeats 3200000 in
theorem inPlaceUnion_self (o : O) (b : List Bool) (w : World) (h : o.ok w) (r : o.rep b) (hn : b.length ≤ 1048000) :
    Calls Try.prog 28 #[o.ptr, o.ptr] w fun e w' => e = .returned (.tuple #[]) ∧ Upd o (twoL (fun x y => x || y) b b b.length) w w' := by
  have H := Lib.hid h
  have R := Lib.hid r
  obtain ⟨c, hc⟩ : ∃ c, o.m = c := ⟨_, rfl⟩
  have hcf : c = (b.length + 63) / 64 := by rw [← hc]; exact r.fit
  have HW : Hid (∀ wx, Same w wx → Calls Try.prog 41 #[.pointer (some ⟨o.p, 0, none⟩)] wx fun e w' => e = .returned (.int .i64 (c : Int)) ∧ wx = w') := Lib.hid (fun wx hx => by
    have := wordCount o wx (h.keep hx (fun _ _ => id)) (by rw [r.len]; omega)
    rw [r.len, ← hcf] at this
    exact this.mono fun e w' ⟨he, hw⟩ => ⟨he, hw.symm⟩)
  have HF : Hid (∀ ws wr, (o.having ws).ok wr → WorkedD (fun x y => x || y) o.ws o.ws (bit o.ws) ws c → Only o.foot w wr → Upd o (twoL (fun x y => x || y) b b b.length) w wr) := Lib.hid (fun ws wr hok hwk hO => by
    refine having_upd hok ⟨by rw [twoL_len]; exact R.out.len, by rw [twoL_len]; exact R.out.fit, fun j => ?_⟩ hO
    show bit ws j = _
    rw [hwk j, twoL_get, R.out.bits]
    by_cases c2 : j < b.length
    · rw [if_pos (by omega), decide_eq_true c2, Bool.true_and]
    · have : b.getD j false = false := by simp [show b.length ≤ j by omega]
      rw [decide_eq_false c2, this]; simp)
  generalize twoL (fun x y => x || y) b b b.length = d at *
  obtain ⟨n, hnn⟩ : ∃ n, b.length = n := ⟨_, rfl⟩
  obtain ⟨ab, hab, -⟩ := h.facts
  have HAB := Lib.hid hab
  have HOK : Hid ((o.having o.ws).ok w) := Lib.hid h
  obtain ⟨s0, s1, sf0, sf1, scs, sfr, sp, sbl, sne⟩ := having_facts (o := o) (ws := o.ws) h hab
  rw [r.len, hnn] at s0
  rw [hc] at s1 scs
  rw [hnn] at hcf hn
  have HM := Lib.hid hc
  have HSC := Lib.hid scs
  have hcb : c ≤ 20000 := by omega
  have HN0 : Hid (0 < c → 0 < n) := Lib.hid (fun h => by omega)
  have HN1 : Hid (c = 0 → n = 0) := Lib.hid (fun h => by omega)
  clear h r hab scs sfr hc hcf hnn
  have hgt : ¬ c > c := by omega
  by_cases h0 : 0 < c
  · have z1 := HSC.out (c - 1) (by omega)
    have zi : ((c : Int) - 1).toNat = c - 1 := by omega
    have zj : (c : Int) - 1 < (c : Int) := by omega
    have zl : (0 : Int) ≤ (c : Int) - 1 := by omega
    have zm : ¬ (c : Int) ≤ 0 := by omega
    have zn : ¬ c = 0 := by omega
    have hn0 := HN0.out h0
    have p1 : (0 : Int) < (n : Int) := by omega
    have p2 : ¬ (n : Int) ≤ (n : Int) - 1 := by omega
    have hwr : IntKind.u64.wrap ((n : Int) - 1) = (n : Int) - 1 := by rw [IntKind.wrap_u64]; omega
    generalize o.ws.getD (c - 1) 0 = u1 at *
    unfold O.ptr at *
    go_enter Try.func28, Try.ntmps28
    go_wp2_with (first | (go_at_call 43; (with_reducible refine (notNil2 _ _).mono ?_); rintro e w1 ⟨rfl, rfl⟩) | (go_at_call 41; (with_reducible refine (HW.out _ (Only.refl _ _)).mono ?_); rintro e w1 ⟨rfl, rfl⟩))
    go_quiet (fail)
    go_wp2_with fail
    go_region_held3 (fun w' => w'.cell? ⟨o.p, 1, none⟩ = some (.slice (some ⟨ab, 0, none⟩) c o.cap)) (go_keep) (fail)
    go_wp2
    clear s0 s1 sf0 sf1 sp sbl sne z1 zi zj zl zm
    go_loopw [7] (fun i wr => ∃ (k : Nat) (ws : List Nat), k ≤ c ∧ i = .int .i64 (k : Int) ∧ Hid ((o.having ws).ok wr ∧ WorkedD (fun x y => x || y) o.ws o.ws (bit o.ws) ws k ∧ Only o.foot w wr ∧ ∀ j, k ≤ j → ws.getD j 0 = o.ws.getD j 0)) (fun i _ => c - (intOf i).toNat)
    case atStart => exact ⟨0, o.ws, Nat.zero_le _, rfl, Lib.hid ⟨HOK.out.of_heap rfl, fun j => by rw [if_neg (by omega)], by repeat (first | exact Only.refl _ _ | apply Only.drew | apply Only.drewN), fun _ _ => rfl⟩⟩
    case round =>
      obtain ⟨k, ws, hk, rfl, hrel⟩ := hrel
      have HL2 := Lib.hid (having_len hrel.out.1)
      by_cases hlt : k < c
      · have hlt' : (k : Int) < (c : Int) := by omega
        obtain ⟨a0, a1, af0, af1, acs, afr, ap, abl, ane⟩ := having_facts hrel.out.1 HAB.out
        have ak := acs k (by rw [HM.out]; omega)
        have fk := afr k
        have HWa : Hid (Lt64 (o.ws.getD k 0)) := Lib.hid (HOK.out.fits.at k)
        rw [hrel.out.2.2.2 k (Nat.le_refl _)] at ak
        have HST : Hid (∀ x : Nat, x = o.ws.getD k 0 → (o.having (ws.set k (x ||| x))).ok (wr.setCell ⟨ab, k, none⟩ (.int .u64 ((x ||| x : Nat) : Int))).drew ∧ WorkedD (fun x y => x || y) o.ws o.ws (bit o.ws) (ws.set k (x ||| x)) (k + 1) ∧ Only o.foot w (wr.setCell ⟨ab, k, none⟩ (.int .u64 ((x ||| x : Nat) : Int))).drew ∧ ∀ j, k + 1 ≤ j → (ws.set k (x ||| x)).getD j 0 = o.ws.getD j 0) := Lib.hid (fun x hx => by
          subst hx
          exact ⟨(having_store hrel.out.1 HAB.out (by rw [HM.out]; omega) (lt64_or HWa.out HWa.out)).of_heap rfl, hrel.out.2.1.step (by rw [HL2.out, HM.out]; omega) (fun c hc => Nat.testBit_or _ _ _), (hrel.out.2.2.1.setCell _ _ (fun _ => .inr (by rw [HAB.out]; rfl))).drew, fun j hj => by rw [← hrel.out.2.2.2 j (by omega)]; simp only [List.getD_eq_getElem?_getD]; rw [List.getElem?_set_ne (by omega)]⟩)
        clear acs afr
        rw [HM.out] at a1
        generalize o.ws.getD k 0 = x at *
        have e1 : bits .or .u64 (x : Int) (x : Int) = ((x ||| x : Nat) : Int) := or_nat HWa.out HWa.out
        have HN := Lib.hid (HST.out x rfl)
        generalize x ||| x = X at *
        clear HST
        go_wp2
        refine wp_region_still_tail 10 (by kernel_rfl) (by kernel_rfl) ?_
        simp only [List.take_succ_cons, List.take_zero, List.drop_succ_cons, List.drop_zero]
        repeat still_step
        refine wpStill_nil ?_
        go_wp2
        go_roundw
        case rel => exact ⟨k + 1, _, by omega, by go_num, Lib.hid HN.out⟩
        case measure => simp [intOf]; omega
      · obtain rfl : k = c := by omega
        have hge : ¬ (k : Int) < (k : Int) := by omega
        obtain ⟨a0, a1, af0, af1, acs, afr, ap, abl, ane⟩ := having_facts hrel.out.1 HAB.out
        rw [HM.out] at a1
        clear acs afr
        have HFIN : Hid (Upd o d w wr) := Lib.hid (HF.out ws wr hrel.out.1 hrel.out.2.1 hrel.out.2.2.1)
        go_wp2
        go_end0
        exact ⟨rfl, HFIN.out⟩
  · have zm : (c : Int) ≤ 0 := by omega
    have zn : c = 0 := by omega
    have hn0 := HN1.out zn
    have HFIN : Hid (∀ t, Upd o d w (w.drewN t)) := Lib.hid (fun t => HF.out o.ws _ (HOK.out.of_heap rfl) (fun j => by rw [if_neg (by omega)]) ((Only.refl _ _).drewN t))
    have HFIN0 : Hid (Upd o d w w) := Lib.hid (HF.out o.ws _ HOK.out (fun j => by rw [if_neg (by omega)]) (Only.refl _ _))
    subst hn0
    subst zn
    unfold O.ptr at *
    go_enter Try.func28, Try.ntmps28
    go_wp2_with (first | (go_at_call 43; (with_reducible refine (notNil2 _ _).mono ?_); rintro e w1 ⟨rfl, rfl⟩) | (go_at_call 41; (with_reducible refine (HW.out _ (Only.refl _ _)).mono ?_); rintro e w1 ⟨rfl, rfl⟩))
    go_quiet (fail)
    go_wp2_with fail
    go_end0
    exact ⟨rfl, HFIN.out _⟩
set_option maxRecDepth 100000 in
set_option maxHeartbeats 3200000 in
theorem inPlaceSymmetricDifference_self (o : O) (b : List Bool) (w : World) (h : o.ok w) (r : o.rep b) (hn : b.length ≤ 1048000) :
    Calls Try.prog 30 #[o.ptr, o.ptr] w fun e w' => e = .returned (.tuple #[]) ∧ Upd o (twoL (fun x y => x ^^ y) b b b.length) w w' := by
  have H := Lib.hid h
  have R := Lib.hid r
  obtain ⟨c, hc⟩ : ∃ c, o.m = c := ⟨_, rfl⟩
  have hcf : c = (b.length + 63) / 64 := by rw [← hc]; exact r.fit
  have HW : Hid (∀ wx, Same w wx → Calls Try.prog 41 #[.pointer (some ⟨o.p, 0, none⟩)] wx fun e w' => e = .returned (.int .i64 (c : Int)) ∧ wx = w') := Lib.hid (fun wx hx => by
    have := wordCount o wx (h.keep hx (fun _ _ => id)) (by rw [r.len]; omega)
    rw [r.len, ← hcf] at this
    exact this.mono fun e w' ⟨he, hw⟩ => ⟨he, hw.symm⟩)
  have HF : Hid (∀ ws wr, (o.having ws).ok wr → WorkedD (fun x y => x ^^ y) o.ws o.ws (bit o.ws) ws c → Only o.foot w wr → Upd o (twoL (fun x y => x ^^ y) b b b.length) w wr) := Lib.hid (fun ws wr hok hwk hO => by
    refine having_upd hok ⟨by rw [twoL_len]; exact R.out.len, by rw [twoL_len]; exact R.out.fit, fun j => ?_⟩ hO
    show bit ws j = _
    rw [hwk j, twoL_get, R.out.bits]
    by_cases c2 : j < b.length
    · rw [if_pos (by omega), decide_eq_true c2, Bool.true_and]
    · have : b.getD j false = false := by simp [show b.length ≤ j by omega]
      rw [decide_eq_false c2, this]; simp)
  generalize twoL (fun x y => x ^^ y) b b b.length = d at *
  obtain ⟨n, hnn⟩ : ∃ n, b.length = n := ⟨_, rfl⟩
  obtain ⟨ab, hab, -⟩ := h.facts
  have HAB := Lib.hid hab
  have HOK : Hid ((o.having o.ws).ok w) := Lib.hid h
  obtain ⟨s0, s1, sf0, sf1, scs, sfr, sp, sbl, sne⟩ := having_facts (o := o) (ws := o.ws) h hab
  rw [r.len, hnn] at s0
  rw [hc] at s1 scs
  rw [hnn] at hcf hn
  have HM := Lib.hid hc
  have HSC := Lib.hid scs
  have hcb : c ≤ 20000 := by omega
  have HN0 : Hid (0 < c → 0 < n) := Lib.hid (fun h => by omega)
  have HN1 : Hid (c = 0 → n = 0) := Lib.hid (fun h => by omega)
  clear h r hab scs sfr hc hcf hnn
  have hgt : ¬ c > c := by omega
  by_cases h0 : 0 < c
  · have z1 := HSC.out (c - 1) (by omega)
    have zi : ((c : Int) - 1).toNat = c - 1 := by omega
    have zj : (c : Int) - 1 < (c : Int) := by omega
    have zl : (0 : Int) ≤ (c : Int) - 1 := by omega
    have zm : ¬ (c : Int) ≤ 0 := by omega
    have zn : ¬ c = 0 := by omega
    have hn0 := HN0.out h0
    have p1 : (0 : Int) < (n : Int) := by omega
    have p2 : ¬ (n : Int) ≤ (n : Int) - 1 := by omega
    have hwr : IntKind.u64.wrap ((n : Int) - 1) = (n : Int) - 1 := by rw [IntKind.wrap_u64]; omega
    generalize o.ws.getD (c - 1) 0 = u1 at *
    unfold O.ptr at *
    go_enter Try.func30, Try.ntmps30
    go_wp2_with (first | (go_at_call 43; (with_reducible refine (notNil2 _ _).mono ?_); rintro e w1 ⟨rfl, rfl⟩) | (go_at_call 41; (with_reducible refine (HW.out _ (Only.refl _ _)).mono ?_); rintro e w1 ⟨rfl, rfl⟩))
    go_quiet (fail)
    go_wp2_with fail
    go_region_held3 (fun w' => w'.cell? ⟨o.p, 1, none⟩ = some (.slice (some ⟨ab, 0, none⟩) c o.cap)) (go_keep) (fail)
    go_wp2
    clear s0 s1 sf0 sf1 sp sbl sne z1 zi zj zl zm
    go_loopw [7] (fun i wr => ∃ (k : Nat) (ws : List Nat), k ≤ c ∧ i = .int .i64 (k : Int) ∧ Hid ((o.having ws).ok wr ∧ WorkedD (fun x y => x ^^ y) o.ws o.ws (bit o.ws) ws k ∧ Only o.foot w wr ∧ ∀ j, k ≤ j → ws.getD j 0 = o.ws.getD j 0)) (fun i _ => c - (intOf i).toNat)
    case atStart => exact ⟨0, o.ws, Nat.zero_le _, rfl, Lib.hid ⟨HOK.out.of_heap rfl, fun j => by rw [if_neg (by omega)], by repeat (first | exact Only.refl _ _ | apply Only.drew | apply Only.drewN), fun _ _ => rfl⟩⟩
    case round =>
      obtain ⟨k, ws, hk, rfl, hrel⟩ := hrel
      have HL2 := Lib.hid (having_len hrel.out.1)
      by_cases hlt : k < c
      · have hlt' : (k : Int) < (c : Int) := by omega
        obtain ⟨a0, a1, af0, af1, acs, afr, ap, abl, ane⟩ := having_facts hrel.out.1 HAB.out
        have ak := acs k (by rw [HM.out]; omega)
        have fk := afr k
        have HWa : Hid (Lt64 (o.ws.getD k 0)) := Lib.hid (HOK.out.fits.at k)
        rw [hrel.out.2.2.2 k (Nat.le_refl _)] at ak
        have HST : Hid (∀ x : Nat, x = o.ws.getD k 0 → (o.having (ws.set k (x ^^^ x))).ok (wr.setCell ⟨ab, k, none⟩ (.int .u64 ((x ^^^ x : Nat) : Int))).drew ∧ WorkedD (fun x y => x ^^ y) o.ws o.ws (bit o.ws) (ws.set k (x ^^^ x)) (k + 1) ∧ Only o.foot w (wr.setCell ⟨ab, k, none⟩ (.int .u64 ((x ^^^ x : Nat) : Int))).drew ∧ ∀ j, k + 1 ≤ j → (ws.set k (x ^^^ x)).getD j 0 = o.ws.getD j 0) := Lib.hid (fun x hx => by
          subst hx
          exact ⟨(having_store hrel.out.1 HAB.out (by rw [HM.out]; omega) (lt64_xor HWa.out HWa.out)).of_heap rfl, hrel.out.2.1.step (by rw [HL2.out, HM.out]; omega) (fun c hc => Nat.testBit_xor _ _ _), (hrel.out.2.2.1.setCell _ _ (fun _ => .inr (by rw [HAB.out]; rfl))).drew, fun j hj => by rw [← hrel.out.2.2.2 j (by omega)]; simp only [List.getD_eq_getElem?_getD]; rw [List.getElem?_set_ne (by omega)]⟩)
        clear acs afr
        rw [HM.out] at a1
        generalize o.ws.getD k 0 = x at *
        have e1 : bits .xor .u64 (x : Int) (x : Int) = ((x ^^^ x : Nat) : Int) := xor_nat HWa.out HWa.out
        have HN := Lib.hid (HST.out x rfl)
        generalize x ^^^ x = X at *
        clear HST
        go_wp2
        refine wp_region_still_tail 10 (by kernel_rfl) (by kernel_rfl) ?_
        simp only [List.take_succ_cons, List.take_zero, List.drop_succ_cons, List.drop_zero]
        repeat still_step
        refine wpStill_nil ?_
        go_wp2
        go_roundw
        case rel => exact ⟨k + 1, _, by omega, by go_num, Lib.hid HN.out⟩
        case measure => simp [intOf]; omega
      · obtain rfl : k = c := by omega
        have hge : ¬ (k : Int) < (k : Int) := by omega
        obtain ⟨a0, a1, af0, af1, acs, afr, ap, abl, ane⟩ := having_facts hrel.out.1 HAB.out
        rw [HM.out] at a1
        clear acs afr
        have HFIN : Hid (Upd o d w wr) := Lib.hid (HF.out ws wr hrel.out.1 hrel.out.2.1 hrel.out.2.2.1)
        go_wp2
        go_end0
        exact ⟨rfl, HFIN.out⟩
  · have zm : (c : Int) ≤ 0 := by omega
    have zn : c = 0 := by omega
    have hn0 := HN1.out zn
    have HFIN : Hid (∀ t, Upd o d w (w.drewN t)) := Lib.hid (fun t => HF.out o.ws _ (HOK.out.of_heap rfl) (fun j => by rw [if_neg (by omega)]) ((Only.refl _ _).drewN t))
    have HFIN0 : Hid (Upd o d w w) := Lib.hid (HF.out o.ws _ HOK.out (fun j => by rw [if_neg (by omega)]) (Only.refl _ _))
    subst hn0
    subst zn
    unfold O.ptr at *
    go_enter Try.func30, Try.ntmps30
    go_wp2_with (first | (go_at_call 43; (with_reducible refine (notNil2 _ _).mono ?_); rintro e w1 ⟨rfl, rfl⟩) | (go_at_call 41; (with_reducible refine (HW.out _ (Only.refl _ _)).mono ?_); rintro e w1 ⟨rfl, rfl⟩))
    go_quiet (fail)
    go_wp2_with fail
    go_end0
    exact ⟨rfl, HFIN.out _⟩
set_option maxRecDepth 100000 in
set_option maxHeartbeats 3200000 in
theorem inPlaceDifference_self (o : O) (b : List Bool) (w : World) (h : o.ok w) (r : o.rep b) (hn : b.length ≤ 1048000) :
    Calls Try.prog 29 #[o.ptr, o.ptr] w fun e w' => e = .returned (.tuple #[]) ∧ Upd o (twoL (fun x y => x && !y) b b b.length) w w' := by
  have H := Lib.hid h
  have R := Lib.hid r
  obtain ⟨c, hc⟩ : ∃ c, o.m = c := ⟨_, rfl⟩
  have hcf : c = (b.length + 63) / 64 := by rw [← hc]; exact r.fit
  have HW : Hid (∀ wx, Same w wx → Calls Try.prog 41 #[.pointer (some ⟨o.p, 0, none⟩)] wx fun e w' => e = .returned (.int .i64 (c : Int)) ∧ wx = w') := Lib.hid (fun wx hx => by
    have := wordCount o wx (h.keep hx (fun _ _ => id)) (by rw [r.len]; omega)
    rw [r.len, ← hcf] at this
    exact this.mono fun e w' ⟨he, hw⟩ => ⟨he, hw.symm⟩)
  have HF : Hid (∀ ws wr, (o.having ws).ok wr → WorkedD (fun x y => x && !y) o.ws o.ws (bit o.ws) ws c → Only o.foot w wr → Upd o (twoL (fun x y => x && !y) b b b.length) w wr) := Lib.hid (fun ws wr hok hwk hO => by
    refine having_upd hok ⟨by rw [twoL_len]; exact R.out.len, by rw [twoL_len]; exact R.out.fit, fun j => ?_⟩ hO
    show bit ws j = _
    rw [hwk j, twoL_get, R.out.bits]
    by_cases c2 : j < b.length
    · rw [if_pos (by omega), decide_eq_true c2, Bool.true_and]
    · have : b.getD j false = false := by simp [show b.length ≤ j by omega]
      rw [decide_eq_false c2, this]; simp)
  generalize twoL (fun x y => x && !y) b b b.length = d at *
  obtain ⟨n, hnn⟩ : ∃ n, b.length = n := ⟨_, rfl⟩
  obtain ⟨ab, hab, -⟩ := h.facts
  have HAB := Lib.hid hab
  have HOK : Hid ((o.having o.ws).ok w) := Lib.hid h
  obtain ⟨s0, s1, sf0, sf1, scs, sfr, sp, sbl, sne⟩ := having_facts (o := o) (ws := o.ws) h hab
  rw [r.len, hnn] at s0
  rw [hc] at s1 scs
  rw [hnn] at hcf hn
  have HM := Lib.hid hc
  have HSC := Lib.hid scs
  have hcb : c ≤ 20000 := by omega
  have HN0 : Hid (0 < c → 0 < n) := Lib.hid (fun h => by omega)
  have HN1 : Hid (c = 0 → n = 0) := Lib.hid (fun h => by omega)
  clear h r hab scs sfr hc hcf hnn
  have hgt : ¬ c > c := by omega
  by_cases h0 : 0 < c
  · have z1 := HSC.out (c - 1) (by omega)
    have zi : ((c : Int) - 1).toNat = c - 1 := by omega
    have zj : (c : Int) - 1 < (c : Int) := by omega
    have zl : (0 : Int) ≤ (c : Int) - 1 := by omega
    have zm : ¬ (c : Int) ≤ 0 := by omega
    have zn : ¬ c = 0 := by omega
    have hn0 := HN0.out h0
    have p1 : (0 : Int) < (n : Int) := by omega
    have p2 : ¬ (n : Int) ≤ (n : Int) - 1 := by omega
    have hwr : IntKind.u64.wrap ((n : Int) - 1) = (n : Int) - 1 := by rw [IntKind.wrap_u64]; omega
    generalize o.ws.getD (c - 1) 0 = u1 at *
    unfold O.ptr at *
    go_enter Try.func29, Try.ntmps29
    go_wp2_with (first | (go_at_call 43; (with_reducible refine (notNil2 _ _).mono ?_); rintro e w1 ⟨rfl, rfl⟩) | (go_at_call 41; (with_reducible refine (HW.out _ (Only.refl _ _)).mono ?_); rintro e w1 ⟨rfl, rfl⟩))
    go_region_held3 (fun w' => w'.cell? ⟨o.p, 1, none⟩ = some (.slice (some ⟨ab, 0, none⟩) c o.cap)) (go_keep) (fail)
    go_wp2
    clear s0 s1 sf0 sf1 sp sbl sne z1 zi zj zl zm
    go_loopw [7] (fun i wr => ∃ (k : Nat) (ws : List Nat), k ≤ c ∧ i = .int .i64 (k : Int) ∧ Hid ((o.having ws).ok wr ∧ WorkedD (fun x y => x && !y) o.ws o.ws (bit o.ws) ws k ∧ Only o.foot w wr ∧ ∀ j, k ≤ j → ws.getD j 0 = o.ws.getD j 0)) (fun i _ => c - (intOf i).toNat)
    case atStart => exact ⟨0, o.ws, Nat.zero_le _, rfl, Lib.hid ⟨HOK.out.of_heap rfl, fun j => by rw [if_neg (by omega)], by repeat (first | exact Only.refl _ _ | apply Only.drew | apply Only.drewN), fun _ _ => rfl⟩⟩
    case round =>
      obtain ⟨k, ws, hk, rfl, hrel⟩ := hrel
      have HL2 := Lib.hid (having_len hrel.out.1)
      by_cases hlt : k < c
      · have hlt' : (k : Int) < (c : Int) := by omega
        obtain ⟨a0, a1, af0, af1, acs, afr, ap, abl, ane⟩ := having_facts hrel.out.1 HAB.out
        have ak := acs k (by rw [HM.out]; omega)
        have fk := afr k
        have HWa : Hid (Lt64 (o.ws.getD k 0)) := Lib.hid (HOK.out.fits.at k)
        rw [hrel.out.2.2.2 k (Nat.le_refl _)] at ak
        have HST : Hid (∀ x : Nat, x = o.ws.getD k 0 → (o.having (ws.set k (anot x x))).ok (wr.setCell ⟨ab, k, none⟩ (.int .u64 ((anot x x : Nat) : Int))).drew ∧ WorkedD (fun x y => x && !y) o.ws o.ws (bit o.ws) (ws.set k (anot x x)) (k + 1) ∧ Only o.foot w (wr.setCell ⟨ab, k, none⟩ (.int .u64 ((anot x x : Nat) : Int))).drew ∧ ∀ j, k + 1 ≤ j → (ws.set k (anot x x)).getD j 0 = o.ws.getD j 0) := Lib.hid (fun x hx => by
          subst hx
          exact ⟨(having_store hrel.out.1 HAB.out (by rw [HM.out]; omega) (anot_lt HWa.out)).of_heap rfl, hrel.out.2.1.step (by rw [HL2.out, HM.out]; omega) (fun c hc => anot_bit HWa.out HWa.out c hc), (hrel.out.2.2.1.setCell _ _ (fun _ => .inr (by rw [HAB.out]; rfl))).drew, fun j hj => by rw [← hrel.out.2.2.2 j (by omega)]; simp only [List.getD_eq_getElem?_getD]; rw [List.getElem?_set_ne (by omega)]⟩)
        clear acs afr
        rw [HM.out] at a1
        generalize o.ws.getD k 0 = x at *
        have e1 : bits .andNot .u64 (x : Int) (x : Int) = ((anot x x : Nat) : Int) := anot_eq HWa.out HWa.out
        have HN := Lib.hid (HST.out x rfl)
        generalize anot x x = X at *
        clear HST
        go_wp2
        refine wp_region_still_tail 10 (by kernel_rfl) (by kernel_rfl) ?_
        simp only [List.take_succ_cons, List.take_zero, List.drop_succ_cons, List.drop_zero]
        repeat still_step
        refine wpStill_nil ?_
        go_wp2
        go_roundw
        case rel => exact ⟨k + 1, _, by omega, by go_num, Lib.hid HN.out⟩
        case measure => simp [intOf]; omega
      · obtain rfl : k = c := by omega
        have hge : ¬ (k : Int) < (k : Int) := by omega
        obtain ⟨a0, a1, af0, af1, acs, afr, ap, abl, ane⟩ := having_facts hrel.out.1 HAB.out
        rw [HM.out] at a1
        clear acs afr
        have HFIN : Hid (Upd o d w wr) := Lib.hid (HF.out ws wr hrel.out.1 hrel.out.2.1 hrel.out.2.2.1)
        go_wp2
        go_end0
        exact ⟨rfl, HFIN.out⟩
  · have zm : (c : Int) ≤ 0 := by omega
    have zn : c = 0 := by omega
    have hn0 := HN1.out zn
    have HFIN : Hid (∀ t, Upd o d w (w.drewN t)) := Lib.hid (fun t => HF.out o.ws _ (HOK.out.of_heap rfl) (fun j => by rw [if_neg (by omega)]) ((Only.refl _ _).drewN t))
    have HFIN0 : Hid (Upd o d w w) := Lib.hid (HF.out o.ws _ HOK.out (fun j => by rw [if_neg (by omega)]) (Only.refl _ _))
    subst hn0
    subst zn
    unfold O.ptr at *
    go_enter Try.func29, Try.ntmps29
    go_wp2_with (first | (go_at_call 43; (with_reducible refine (notNil2 _ _).mono ?_); rintro e w1 ⟨rfl, rfl⟩) | (go_at_call 41; (with_reducible refine (HW.out _ (Only.refl _ _)).mono ?_); rintro e w1 ⟨rfl, rfl⟩))
    refine bodyPost_ret (v := .tuple #[]) ?_ rfl ⟨rfl, HFIN0.out⟩
    simp [results, Try.results29, go_sem]
end Go.Proofs.Ytgndpckcdageiaa.bs

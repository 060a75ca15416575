/-
  Bitsets: InPlaceUnion. Printed by a program of mine.
-/
import Derived.Test.YtgndpckcdageiaaBsInter
import Derived.Test.YtgndpckcdageiaaBsExt
import Derived.Test.YtgndpckcdageiaaBsRange
import Derived.Deep.QuietTactic
import Derived.Deep.RegionHeld3
namespace Go.Proofs.Ytgndpckcdageiaa.bs
open Go.RowKit Go.Proofs.Ytgndpckcdageiaa.base Go.Proofs.Ytgndpckcdageiaa.heap Go.Proofs.Ytgndpckcdageiaa.bit
set_option linter.unusedVariables false

set_option maxRecDepth 100000 in
set_option maxHeartbeats 6400000 in
theorem inPlaceUnion (o1 o2 : O) (b b2 : List Bool) (w : World) (h1 : o1.ok w) (h2 : o2.ok w) (r1 : o1.rep b) (r2 : o2.rep b2) (hdis : ∀ j, o1.foot j → ¬ o2.foot j) (t2 : o2.m = (b2.length + 63) / 64) (hn : b.length ≤ 1048000) (hn2 : b2.length ≤ 1048000) :
    Calls Try.prog 28 #[o1.ptr, o2.ptr] w fun e w' => e = .returned (.tuple #[]) ∧ Upd o1 (twoL (fun x y => x || y) b b2 (max b.length b2.length)) w w' := by
  have H1 := Lib.hid h1
  have H2 := Lib.hid h2
  have R1 := Lib.hid r1
  have R2 := Lib.hid r2
  obtain ⟨c1, hc1⟩ : ∃ c1, (b.length + 63) / 64 = c1 := ⟨_, rfl⟩
  obtain ⟨c2, hc2⟩ : ∃ c2, (b2.length + 63) / 64 = c2 := ⟨_, rfl⟩
  have HW1 : Hid (∀ wx, Same w wx → Calls Try.prog 41 #[.pointer (some ⟨o1.p, 0, none⟩)] wx fun e w' => e = .returned (.int .i64 (c1 : Int)) ∧ wx = w') := Lib.hid (fun wx hx => by
    have := wordCount o1 wx (h1.keep hx (fun _ _ => id)) (by rw [r1.len]; omega)
    rw [r1.len, hc1] at this
    exact this.mono fun e w' ⟨he, hw⟩ => ⟨he, hw.symm⟩)
  have HW2 : Hid (∀ wx, Same w wx → Calls Try.prog 41 #[.pointer (some ⟨o2.p, 0, none⟩)] wx fun e w' => e = .returned (.int .i64 (c2 : Int)) ∧ wx = w') := Lib.hid (fun wx hx => by
    have := wordCount o2 wx (h2.keep hx (fun _ _ => id)) (by rw [r2.len]; omega)
    rw [r2.len, hc2] at this
    exact this.mono fun e w' ⟨he, hw⟩ => ⟨he, hw.symm⟩)
  obtain ⟨n1, hn1⟩ : ∃ n1, b.length = n1 := ⟨_, rfl⟩
  obtain ⟨n2, hn2'⟩ : ∃ n2, b2.length = n2 := ⟨_, rfl⟩
  have hm2 : o2.m = c2 := by omega
  have hq1 : n1 ≤ 64 * c1 := by omega
  have hq2 : n2 ≤ 64 * c2 := by omega
  have hq3 : c1 ≤ 20000 ∧ c2 ≤ 20000 := by omega
  have hq4 : 64 * c1 < n1 + 64 := by omega
  have hq5 : 64 * c2 < n2 + 64 := by omega
  have hn1b : n1 ≤ 1048000 := by omega
  have hn2b : n2 ≤ 1048000 := by omega
  obtain ⟨hq6, hq7⟩ := hq3
  have HF : Hid (∀ (oo : O) ws w1 wr, oo.p = o1.p → oo.rep (grow b n2) → (oo.having ws).ok wr → WorkedD (fun x y => x || y) oo.ws o2.ws (bit oo.ws) ws c2 → Only oo.foot w1 wr → Only o1.foot w w1 → (∀ k, oo.foot k → o1.foot k ∨ w.heap.size ≤ k) → Upd o1 (twoL (fun x y => x || y) b b2 (max b.length b2.length)) w wr) := Lib.hid (fun oo ws w1 wr hp hro hok hwk hO hO1 hf => by
    refine upd_trans hp hO1 hf (having_upd hok ⟨by rw [twoL_len, hn2']; exact hro.len.trans (grow_len _ _), by rw [twoL_len, hn2', ← grow_len]; exact hro.fit, fun j => ?_⟩ hO)
    show bit ws j = _
    rw [hwk j, twoL_far _ rfl _ _ _ _ ⟨Nat.le_max_left _ _, Nat.le_max_right _ _⟩, hro.bits, R2.out.bits, grow_get]
    by_cases c : j < 64 * c2
    · rw [if_pos c]
    · rw [if_neg c]
      have : b2.getD j false = false := by simp [show b2.length ≤ j by omega]
      rw [this]; simp)
  generalize twoL (fun x y => x || y) b b2 (max b.length b2.length) = d at *
  have HEX : Hid (n1 < n2 → ∀ t : Nat, Calls Try.prog 38 #[.pointer (some ⟨o1.p, 0, none⟩), .int .u64 ((n2 : Int) - 1)] (w.drewN t) fun e w' => e = .returned (.tuple #[]) ∧ Grown o1 (grow b n2) w w') := Lib.hid (fun ht t => by
    have := extendSet o1 b (n2 - 1) (w.drewN t) (H1.out.of_heap rfl) R1.out (by omega) (by omega)
    rw [show ((n2 - 1 : Nat) : Int) = (n2 : Int) - 1 by omega] at this
    refine this.mono (fun e w' ⟨he, o1', k1, k2, k3, k4, k5, k6⟩ => ⟨he, o1', k1, k2, ?_, Only.trans ((Only.refl o1.foot w).drewN t) k5 (fun _ _ h => h), k6⟩)
    rw [show n2 - 1 + 1 = n2 by omega] at k3
    exact k3)
  have HG0 : Hid (n2 ≤ n1 → ∀ wx : World, Same w wx → wx.heap = w.heap → Grown o1 (grow b n2) w wx) := Lib.hid (fun ht wx hx hh => ⟨o1, rfl, H1.out.of_heap hh, by rw [grow_of_le (by omega)]; exact R1.out, hx.mono (fun _ _ f => f.elim), fun k hk => .inl hk⟩)
  have HZR : Hid (∀ oo : O, oo.rep (grow b n2) → ∀ k, c1 ≤ k → ∀ c, c < 64 → (oo.ws.getD k 0).testBit c = false) := Lib.hid (fun oo hro k hk c hc => by
    rw [rep_word hro k c hc, grow_get]
    simp [show b.length ≤ 64 * k + c by omega])
  have HOM : Hid (∀ oo : O, oo.rep (grow b n2) → c1 ≤ oo.m ∧ c2 ≤ oo.m) := Lib.hid (fun oo hro => by
    have := hro.room
    rw [grow_len] at this
    omega)
  have HDIS : Hid (∀ oo : O, (∀ k, oo.foot k → o1.foot k ∨ w.heap.size ≤ k) → ∀ j, oo.foot j → ¬ o2.foot j) := Lib.hid (fun oo hf j hj hh => by
    rcases hf j hj with h | h
    · exact hdis j h hh
    · have := H2.out.lt j hh; omega)
  have HDIS1 := Lib.hid hdis
  obtain ⟨bb, hbb, -⟩ := h2.facts
  have HBB := Lib.hid hbb
  obtain ⟨ab0, hab0, -⟩ := h1.facts
  obtain ⟨u0, u1, -, -, -, -, up, -, -⟩ := having_facts (o := o1) (ws := o1.ws) h1 hab0
  obtain ⟨v0, v1, -, -, -, -, vp, -, -⟩ := having_facts (o := o2) (ws := o2.ws) h2 hbb
  rw [r1.len, hn1] at u0
  rw [r2.len, hn2'] at v0
  rw [hm2] at v1
  have hwr : IntKind.u64.wrap ((n2 : Int) - 1) = (n2 : Int) - 1 ∨ n2 = 0 := by
    by_cases h : n2 = 0
    · exact .inr h
    · left; rw [IntKind.wrap_u64]; omega
  have HM2 := Lib.hid hm2
  clear h1 h2 r1 r2 hdis t2 hbb hab0 hc1 hc2 hn hn2 hn1 hn2' hm2
  have hcase : (c2 > c1 ∧ n1 < n2 ∧ 0 < c1) ∨ (c2 > c1 ∧ n1 < n2 ∧ c1 = 0) ∨ (¬ c2 > c1 ∧ n1 < n2 ∧ 0 < c2) ∨ (¬ c2 > c1 ∧ n2 ≤ n1 ∧ 0 < c2) ∨ (¬ c2 > c1 ∧ n2 ≤ n1 ∧ c2 = 0) := by omega
  rcases hcase with ⟨hgt, hlt, h0⟩ | ⟨hgt, hlt, h0⟩ | ⟨hgt, hlt, h0⟩ | ⟨hgt, hle, h0⟩ | ⟨hgt, hle, h0⟩
  · have hgt' := hgt
    have p1 : (0 : Int) < (n2 : Int) := by omega
    have p1n : 0 < n2 := by omega
    have p2 : (n1 : Int) ≤ (n2 : Int) - 1 := by omega
    replace hwr := hwr.resolve_right (by omega)
    have p3 : ¬ c1 = 0 := by omega
    unfold O.ptr
    go_enter Try.func28, Try.ntmps28
    go_wp2_with (first | (go_at_call 43; (with_reducible refine (notNil2 _ _).mono ?_); rintro e w1 ⟨rfl, rfl⟩) | (go_at_call 41; (with_reducible refine (HW1.out _ (Only.refl _ _)).mono ?_); rintro e w1 ⟨rfl, rfl⟩) | (go_at_call 41; (with_reducible refine (HW2.out _ (Only.refl _ _)).mono ?_); rintro e w1 ⟨rfl, rfl⟩))
    go_quiet (fail)
    go_wp2_with fail
    refine (HEX.out hlt _).mono ?_
    rintro e w1 ⟨rfl, hg⟩
    obtain ⟨oo, hp', hok, hro, hO1, hfo⟩ := hg
    obtain ⟨ab, hab, -⟩ := hok.facts
    have HAB := Lib.hid hab
    have HOK : Hid ((oo.having oo.ws).ok w1) := Lib.hid hok
    have HO1 := Lib.hid hO1
    have HFO := Lib.hid hfo
    have HRO := Lib.hid hro
    have HP := Lib.hid hp'
    have H2W : Hid (o2.ok w1) := Lib.hid (H2.out.keep HO1.out (fun j hj hh => HDIS1.out j hh hj))
    obtain ⟨hom1, hom2⟩ := HOM.out oo hro
    clear u0 u1 v0 v1 up vp hab hok hO1 hfo hro hp'
    obtain ⟨s0, s1, sf0, sf1, scs, sfr, sp, sbl, sne⟩ := having_facts HOK.out HAB.out
    obtain ⟨t0, t1, tf0, tf1, tcs, tfr, tp, tbl, tne⟩ := having_facts (o := o2) (ws := o2.ws) H2W.out HBB.out
    rw [HP.out] at s0 s1 sf0 sf1
    rw [HM2.out] at t1 tcs
    have HSC := Lib.hid scs
    have HTC := Lib.hid tcs
    clear scs sfr tcs tfr
    have z1 := HSC.out (c1 - 1) (by omega)
    have z2 := HTC.out (c1 - 1) (by omega)
    have zi : ((c1 : Int) - 1).toNat = c1 - 1 := by omega
    have zj : (c1 : Int) - 1 < (oo.m : Int) := by omega
    have zk : (c1 : Int) - 1 < (c2 : Int) := by omega
    have zl : (0 : Int) ≤ (c1 : Int) - 1 := by omega
    have zm : (0 : Int) < (c1 : Int) := by omega
    generalize oo.ws.getD (c1 - 1) 0 = g1 at *
    generalize o2.ws.getD (c1 - 1) 0 = g2 at *
    go_wp2_with fail
    go_region_held3 (fun w' => w'.cell? ⟨o1.p, 1, none⟩ = some (.slice (some ⟨ab, 0, none⟩) oo.m oo.cap) ∧ w'.cell? ⟨o2.p, 1, none⟩ = some (.slice (some ⟨bb, 0, none⟩) c2 o2.cap)) (go_keep) (fail)
    go_wp2
    clear s0 s1 sf0 sf1 sp sbl sne t0 t1 tf0 tf1 tp tbl tne z1 z2 zi zj zk zl zm
    go_loopw [7] (fun i wr => ∃ (k : Nat) (ws : List Nat), k ≤ c1 ∧ i = .int .i64 (k : Int) ∧ Hid ((oo.having ws).ok wr ∧ WorkedD (fun x y => x || y) oo.ws o2.ws (bit oo.ws) ws k ∧ Only oo.foot w1 wr ∧ ∀ j, k ≤ j → ws.getD j 0 = oo.ws.getD j 0)) (fun i _ => c1 - (intOf i).toNat)
    case atStart => exact ⟨0, oo.ws, Nat.zero_le _, rfl, Lib.hid ⟨HOK.out.of_heap rfl, fun j => by rw [if_neg (by omega)], by repeat (first | exact Only.refl _ _ | apply Only.drew | apply Only.drewN), fun _ _ => rfl⟩⟩
    case round =>
      obtain ⟨k, ws, hk, rfl, hrel⟩ := hrel
      have HL2 := Lib.hid (having_len hrel.out.1)
      by_cases hltk : k < c1
      · have hlt' : (k : Int) < (c1 : Int) := by omega
        obtain ⟨a0, a1, af0, af1, acs, afr, ap, abl, ane⟩ := having_facts hrel.out.1 HAB.out
        obtain ⟨b0, b1, bf0, bf1, bcs, bfr, bp, bbl, bne⟩ := having_facts (o := o2) (ws := o2.ws) (H2W.out.keep hrel.out.2.2.1 (fun j hj hh => HDIS.out oo HFO.out j hh hj)) HBB.out
        have ak := acs k (by omega)
        have bk := bcs k (by rw [HM2.out]; omega)
        have fk := afr k
        have hka : (k : Int) < (oo.m : Int) := by omega
        have hkb : (k : Int) < (c2 : Int) := by omega
        have HWb : Hid (Lt64 (o2.ws.getD k 0)) := Lib.hid (H2.out.fits.at k)
        have HWa : Hid (Lt64 (oo.ws.getD k 0)) := Lib.hid (HOK.out.fits.at k)
        rw [hrel.out.2.2.2 k (Nat.le_refl _)] at ak
        have HST : Hid (∀ x y : Nat, x = oo.ws.getD k 0 → y = o2.ws.getD k 0 → (oo.having (ws.set k (x ||| y))).ok (wr.setCell ⟨ab, k, none⟩ (.int .u64 ((x ||| y : Nat) : Int))).drew ∧ WorkedD (fun x y => x || y) oo.ws o2.ws (bit oo.ws) (ws.set k (x ||| y)) (k + 1) ∧ Only oo.foot w1 (wr.setCell ⟨ab, k, none⟩ (.int .u64 ((x ||| y : Nat) : Int))).drew ∧ ∀ j, k + 1 ≤ j → (ws.set k (x ||| y)).getD j 0 = oo.ws.getD j 0) := Lib.hid (fun x y hx hy => by
          subst hx hy
          exact ⟨(having_store hrel.out.1 HAB.out (by omega) (lt64_or HWa.out HWb.out)).of_heap rfl, hrel.out.2.1.step (by rw [HL2.out]; omega) (fun c hc => Nat.testBit_or _ _ _), (hrel.out.2.2.1.setCell _ _ (fun _ => .inr (by rw [HAB.out]; rfl))).drew, fun j hj => by rw [← hrel.out.2.2.2 j (by omega)]; simp only [List.getD_eq_getElem?_getD]; rw [List.getElem?_set_ne (by omega)]⟩)
        clear acs afr bcs bfr
        generalize oo.ws.getD k 0 = x at *
        generalize o2.ws.getD k 0 = y at *
        have e1 : bits .or .u64 (x : Int) (y : Int) = ((x ||| y : Nat) : Int) := or_nat HWa.out HWb.out
        have HN := Lib.hid (HST.out x y rfl rfl)
        generalize x ||| y = X at *
        clear HST
        go_wp2
        refine wp_region_still_tail 10 (by kernel_rfl) (by kernel_rfl) ?_
        simp only [List.take_succ_cons, List.take_zero, List.drop_succ_cons, List.drop_zero]
        repeat still_step
        refine wpStill_nil ?_
        go_wp2
        go_roundw
        case rel => exact ⟨k + 1, _, by omega, by go_num, Lib.hid HN.out⟩
        case measure => simp [intOf]; omega
      · have hkL : c1 = k := by omega
        subst hkL
        have hgeL : ¬ (c1 : Int) < (c1 : Int) := by omega
        obtain ⟨b0, b1, bf0, bf1, bcs, bfr, bp, bbl, bne⟩ := having_facts (o := o2) (ws := o2.ws) (H2W.out.keep hrel.out.2.2.1 (fun j hj hh => HDIS.out oo HFO.out j hh hj)) HBB.out
        rw [HM2.out] at b1
        clear bcs bfr
        have hsec : (c1 : Int) < (c2 : Int) := by omega
        go_wp2
        clear b0 b1 bf0 bf1 bp bbl bne
        have HR1 := Lib.hid hrel.out
        clear hrel
        go_loopw [8] (fun i wr2 => ∃ (k : Nat) (ws : List Nat), c1 ≤ k ∧ k ≤ c2 ∧ i = .int .i64 (k : Int) ∧ Hid ((oo.having ws).ok wr2 ∧ WorkedD (fun x y => x || y) oo.ws o2.ws (bit oo.ws) ws k ∧ Only oo.foot w1 wr2)) (fun i _ => c2 - (intOf i).toNat)
        case atStart => exact ⟨c1, ws, by omega, by omega, rfl, Lib.hid ⟨HR1.out.1.of_heap rfl, HR1.out.2.1, HR1.out.2.2.1⟩⟩
        case round =>
          obtain ⟨k, ws2, hk1, hk2, rfl, hrel⟩ := hrel
          have HL2 := Lib.hid (having_len hrel.out.1)
          obtain ⟨a0, a1, af0, af1, acs, afr, ap, abl, ane⟩ := having_facts hrel.out.1 HAB.out
          obtain ⟨b0, b1, bf0, bf1, bcs, bfr, bp, bbl, bne⟩ := having_facts (o := o2) (ws := o2.ws) (H2W.out.keep hrel.out.2.2 (fun j hj hh => HDIS.out oo HFO.out j hh hj)) HBB.out
          rw [HM2.out] at b1
          rw [HP.out] at a0 a1 af0 af1
          by_cases hltk : k < c2
          · have hlt' : (k : Int) < (c2 : Int) := by omega
            have bk := bcs k (by rw [HM2.out]; omega)
            have fk := afr k
            have ak := acs k (by omega)
            have hka : (k : Int) < (oo.m : Int) := by omega
            have HWb : Hid (Lt64 (o2.ws.getD k 0)) := Lib.hid (H2.out.fits.at k)
            have HST : Hid (∀ y : Nat, y = o2.ws.getD k 0 → (oo.having (ws2.set k y)).ok (wr.setCell ⟨ab, k, none⟩ (.int .u64 (y : Int))).drew ∧ WorkedD (fun x y => x || y) oo.ws o2.ws (bit oo.ws) (ws2.set k y) (k + 1) ∧ Only oo.foot w1 (wr.setCell ⟨ab, k, none⟩ (.int .u64 (y : Int))).drew) := Lib.hid (fun y hy => by
              subst hy
              exact ⟨(having_store hrel.out.1 HAB.out (by omega) HWb.out).of_heap rfl, hrel.out.2.1.step (by rw [HL2.out]; omega) (fun c hc => by rw [HZR.out oo HRO.out k hk1 c hc, Bool.false_or]), (hrel.out.2.2.setCell _ _ (fun _ => .inr (by rw [HAB.out]; rfl))).drew⟩)
            clear acs afr bcs bfr
            generalize o2.ws.getD k 0 = y at *
            generalize ws2.getD k 0 = x at *
            have HN := Lib.hid (HST.out y rfl)
            clear HST
            go_wp2
            refine wp_region_still_tail 13 (by kernel_rfl) (by kernel_rfl) ?_
            simp only [List.take_succ_cons, List.take_zero, List.drop_succ_cons, List.drop_zero]
            repeat still_step
            refine wpStill_nil ?_
            go_wp2
            go_roundw
            case rel => exact ⟨k + 1, _, by omega, by omega, by go_num, Lib.hid HN.out⟩
            case measure => simp [intOf]; omega
          · have hkL : c2 = k := by omega
            subst hkL
            have hgeL : ¬ (c2 : Int) < (c2 : Int) := by omega
            have HFIN : Hid (Upd o1 d w wr) := Lib.hid (HF.out oo ws2 w1 wr HP.out HRO.out hrel.out.1 hrel.out.2.1 hrel.out.2.2 HO1.out HFO.out)
            clear acs afr bcs bfr
            go_wp2
            go_end0
            exact ⟨rfl, HFIN.out⟩
  · have hgt' := hgt
    have p1 : (0 : Int) < (n2 : Int) := by omega
    have p1n : 0 < n2 := by omega
    have p2 : (n1 : Int) ≤ (n2 : Int) - 1 := by omega
    replace hwr := hwr.resolve_right (by omega)
    unfold O.ptr
    go_enter Try.func28, Try.ntmps28
    go_wp2_with (first | (go_at_call 43; (with_reducible refine (notNil2 _ _).mono ?_); rintro e w1 ⟨rfl, rfl⟩) | (go_at_call 41; (with_reducible refine (HW1.out _ (Only.refl _ _)).mono ?_); rintro e w1 ⟨rfl, rfl⟩) | (go_at_call 41; (with_reducible refine (HW2.out _ (Only.refl _ _)).mono ?_); rintro e w1 ⟨rfl, rfl⟩))
    go_quiet (fail)
    go_wp2_with fail
    refine (HEX.out hlt _).mono ?_
    rintro e w1 ⟨rfl, hg⟩
    obtain ⟨oo, hp', hok, hro, hO1, hfo⟩ := hg
    obtain ⟨ab, hab, -⟩ := hok.facts
    have HAB := Lib.hid hab
    have HOK : Hid ((oo.having oo.ws).ok w1) := Lib.hid hok
    have HO1 := Lib.hid hO1
    have HFO := Lib.hid hfo
    have HRO := Lib.hid hro
    have HP := Lib.hid hp'
    have H2W : Hid (o2.ok w1) := Lib.hid (H2.out.keep HO1.out (fun j hj hh => HDIS1.out j hh hj))
    obtain ⟨hom1, hom2⟩ := HOM.out oo hro
    clear u0 u1 v0 v1 up vp hab hok hO1 hfo hro hp'
    obtain ⟨s0, s1, sf0, sf1, scs, sfr, sp, sbl, sne⟩ := having_facts HOK.out HAB.out
    obtain ⟨t0, t1, tf0, tf1, tcs, tfr, tp, tbl, tne⟩ := having_facts (o := o2) (ws := o2.ws) H2W.out HBB.out
    rw [HP.out] at s0 s1 sf0 sf1
    rw [HM2.out] at t1 tcs
    have HSC := Lib.hid scs
    have HTC := Lib.hid tcs
    clear scs sfr tcs tfr
    have zm : ¬ (0 : Int) < (c1 : Int) := by omega
    have zn : c1 = 0 := by omega
    obtain ⟨ws, hrel⟩ : ∃ ws, Hid ((oo.having ws).ok w1 ∧ WorkedD (fun x y => x || y) oo.ws o2.ws (bit oo.ws) ws 0 ∧ Only oo.foot w1 w1 ∧ True) := ⟨oo.ws, Lib.hid ⟨HOK.out, fun j => by rw [if_neg (by omega)], Only.refl _ _, trivial⟩⟩
    obtain ⟨b0, b1, bf0, bf1, bcs, bfr, bp, bbl, bne⟩ := having_facts (o := o2) (ws := o2.ws) (H2W.out.keep hrel.out.2.2.1 (fun j hj hh => HDIS.out oo HFO.out j hh hj)) HBB.out
    rw [HM2.out] at b1
    clear bcs bfr
    have hsec : (0 : Int) < (c2 : Int) := by omega
    go_wp2
    clear b0 b1 bf0 bf1 bp bbl bne
    have HR1 := Lib.hid hrel.out
    clear hrel
    go_loopw [8] (fun i wr2 => ∃ (k : Nat) (ws : List Nat), c1 ≤ k ∧ k ≤ c2 ∧ i = .int .i64 (k : Int) ∧ Hid ((oo.having ws).ok wr2 ∧ WorkedD (fun x y => x || y) oo.ws o2.ws (bit oo.ws) ws k ∧ Only oo.foot w1 wr2)) (fun i _ => c2 - (intOf i).toNat)
    case atStart => exact ⟨0, ws, by omega, by omega, rfl, Lib.hid ⟨HR1.out.1.of_heap rfl, HR1.out.2.1, HR1.out.2.2.1⟩⟩
    case round =>
      obtain ⟨k, ws2, hk1, hk2, rfl, hrel⟩ := hrel
      have HL2 := Lib.hid (having_len hrel.out.1)
      obtain ⟨a0, a1, af0, af1, acs, afr, ap, abl, ane⟩ := having_facts hrel.out.1 HAB.out
      obtain ⟨b0, b1, bf0, bf1, bcs, bfr, bp, bbl, bne⟩ := having_facts (o := o2) (ws := o2.ws) (H2W.out.keep hrel.out.2.2 (fun j hj hh => HDIS.out oo HFO.out j hh hj)) HBB.out
      rw [HM2.out] at b1
      rw [HP.out] at a0 a1 af0 af1
      by_cases hltk : k < c2
      · have hlt' : (k : Int) < (c2 : Int) := by omega
        have bk := bcs k (by rw [HM2.out]; omega)
        have fk := afr k
        have ak := acs k (by omega)
        have hka : (k : Int) < (oo.m : Int) := by omega
        have HWb : Hid (Lt64 (o2.ws.getD k 0)) := Lib.hid (H2.out.fits.at k)
        have HST : Hid (∀ y : Nat, y = o2.ws.getD k 0 → (oo.having (ws2.set k y)).ok (wr.setCell ⟨ab, k, none⟩ (.int .u64 (y : Int))).drew ∧ WorkedD (fun x y => x || y) oo.ws o2.ws (bit oo.ws) (ws2.set k y) (k + 1) ∧ Only oo.foot w1 (wr.setCell ⟨ab, k, none⟩ (.int .u64 (y : Int))).drew) := Lib.hid (fun y hy => by
          subst hy
          exact ⟨(having_store hrel.out.1 HAB.out (by omega) HWb.out).of_heap rfl, hrel.out.2.1.step (by rw [HL2.out]; omega) (fun c hc => by rw [HZR.out oo HRO.out k hk1 c hc, Bool.false_or]), (hrel.out.2.2.setCell _ _ (fun _ => .inr (by rw [HAB.out]; rfl))).drew⟩)
        clear acs afr bcs bfr
        generalize o2.ws.getD k 0 = y at *
        generalize ws2.getD k 0 = x at *
        have HN := Lib.hid (HST.out y rfl)
        clear HST
        go_wp2
        refine wp_region_still_tail 13 (by kernel_rfl) (by kernel_rfl) ?_
        simp only [List.take_succ_cons, List.take_zero, List.drop_succ_cons, List.drop_zero]
        repeat still_step
        refine wpStill_nil ?_
        go_wp2
        go_roundw
        case rel => exact ⟨k + 1, _, by omega, by omega, by go_num, Lib.hid HN.out⟩
        case measure => simp [intOf]; omega
      · have hkL : c2 = k := by omega
        subst hkL
        have hgeL : ¬ (c2 : Int) < (c2 : Int) := by omega
        have HFIN : Hid (Upd o1 d w wr) := Lib.hid (HF.out oo ws2 w1 wr HP.out HRO.out hrel.out.1 hrel.out.2.1 hrel.out.2.2 HO1.out HFO.out)
        clear acs afr bcs bfr
        go_wp2
        go_end0
        exact ⟨rfl, HFIN.out⟩
  · have hgt' := hgt
    have p1 : (0 : Int) < (n2 : Int) := by omega
    have p1n : 0 < n2 := by omega
    have p2 : (n1 : Int) ≤ (n2 : Int) - 1 := by omega
    replace hwr := hwr.resolve_right (by omega)
    have p3 : ¬ c2 = 0 := by omega
    unfold O.ptr
    go_enter Try.func28, Try.ntmps28
    go_wp2_with (first | (go_at_call 43; (with_reducible refine (notNil2 _ _).mono ?_); rintro e w1 ⟨rfl, rfl⟩) | (go_at_call 41; (with_reducible refine (HW1.out _ (Only.refl _ _)).mono ?_); rintro e w1 ⟨rfl, rfl⟩) | (go_at_call 41; (with_reducible refine (HW2.out _ (Only.refl _ _)).mono ?_); rintro e w1 ⟨rfl, rfl⟩))
    go_quiet (fail)
    go_wp2_with fail
    refine (HEX.out hlt _).mono ?_
    rintro e w1 ⟨rfl, hg⟩
    obtain ⟨oo, hp', hok, hro, hO1, hfo⟩ := hg
    obtain ⟨ab, hab, -⟩ := hok.facts
    have HAB := Lib.hid hab
    have HOK : Hid ((oo.having oo.ws).ok w1) := Lib.hid hok
    have HO1 := Lib.hid hO1
    have HFO := Lib.hid hfo
    have HRO := Lib.hid hro
    have HP := Lib.hid hp'
    have H2W : Hid (o2.ok w1) := Lib.hid (H2.out.keep HO1.out (fun j hj hh => HDIS1.out j hh hj))
    obtain ⟨hom1, hom2⟩ := HOM.out oo hro
    clear u0 u1 v0 v1 up vp hab hok hO1 hfo hro hp'
    obtain ⟨s0, s1, sf0, sf1, scs, sfr, sp, sbl, sne⟩ := having_facts HOK.out HAB.out
    obtain ⟨t0, t1, tf0, tf1, tcs, tfr, tp, tbl, tne⟩ := having_facts (o := o2) (ws := o2.ws) H2W.out HBB.out
    rw [HP.out] at s0 s1 sf0 sf1
    rw [HM2.out] at t1 tcs
    have HSC := Lib.hid scs
    have HTC := Lib.hid tcs
    clear scs sfr tcs tfr
    have z1 := HSC.out (c2 - 1) (by omega)
    have z2 := HTC.out (c2 - 1) (by omega)
    have zi : ((c2 : Int) - 1).toNat = c2 - 1 := by omega
    have zj : (c2 : Int) - 1 < (oo.m : Int) := by omega
    have zk : (c2 : Int) - 1 < (c2 : Int) := by omega
    have zl : (0 : Int) ≤ (c2 : Int) - 1 := by omega
    have zm : (0 : Int) < (c2 : Int) := by omega
    generalize oo.ws.getD (c2 - 1) 0 = g1 at *
    generalize o2.ws.getD (c2 - 1) 0 = g2 at *
    go_wp2_with fail
    go_region_held3 (fun w' => w'.cell? ⟨o1.p, 1, none⟩ = some (.slice (some ⟨ab, 0, none⟩) oo.m oo.cap) ∧ w'.cell? ⟨o2.p, 1, none⟩ = some (.slice (some ⟨bb, 0, none⟩) c2 o2.cap)) (go_keep) (fail)
    go_wp2
    clear s0 s1 sf0 sf1 sp sbl sne t0 t1 tf0 tf1 tp tbl tne z1 z2 zi zj zk zl zm
    go_loopw [7] (fun i wr => ∃ (k : Nat) (ws : List Nat), k ≤ c2 ∧ i = .int .i64 (k : Int) ∧ Hid ((oo.having ws).ok wr ∧ WorkedD (fun x y => x || y) oo.ws o2.ws (bit oo.ws) ws k ∧ Only oo.foot w1 wr ∧ ∀ j, k ≤ j → ws.getD j 0 = oo.ws.getD j 0)) (fun i _ => c2 - (intOf i).toNat)
    case atStart => exact ⟨0, oo.ws, Nat.zero_le _, rfl, Lib.hid ⟨HOK.out.of_heap rfl, fun j => by rw [if_neg (by omega)], by repeat (first | exact Only.refl _ _ | apply Only.drew | apply Only.drewN), fun _ _ => rfl⟩⟩
    case round =>
      obtain ⟨k, ws, hk, rfl, hrel⟩ := hrel
      have HL2 := Lib.hid (having_len hrel.out.1)
      by_cases hltk : k < c2
      · have hlt' : (k : Int) < (c2 : Int) := by omega
        obtain ⟨a0, a1, af0, af1, acs, afr, ap, abl, ane⟩ := having_facts hrel.out.1 HAB.out
        obtain ⟨b0, b1, bf0, bf1, bcs, bfr, bp, bbl, bne⟩ := having_facts (o := o2) (ws := o2.ws) (H2W.out.keep hrel.out.2.2.1 (fun j hj hh => HDIS.out oo HFO.out j hh hj)) HBB.out
        have ak := acs k (by omega)
        have bk := bcs k (by rw [HM2.out]; omega)
        have fk := afr k
        have hka : (k : Int) < (oo.m : Int) := by omega
        have hkb : (k : Int) < (c2 : Int) := by omega
        have HWb : Hid (Lt64 (o2.ws.getD k 0)) := Lib.hid (H2.out.fits.at k)
        have HWa : Hid (Lt64 (oo.ws.getD k 0)) := Lib.hid (HOK.out.fits.at k)
        rw [hrel.out.2.2.2 k (Nat.le_refl _)] at ak
        have HST : Hid (∀ x y : Nat, x = oo.ws.getD k 0 → y = o2.ws.getD k 0 → (oo.having (ws.set k (x ||| y))).ok (wr.setCell ⟨ab, k, none⟩ (.int .u64 ((x ||| y : Nat) : Int))).drew ∧ WorkedD (fun x y => x || y) oo.ws o2.ws (bit oo.ws) (ws.set k (x ||| y)) (k + 1) ∧ Only oo.foot w1 (wr.setCell ⟨ab, k, none⟩ (.int .u64 ((x ||| y : Nat) : Int))).drew ∧ ∀ j, k + 1 ≤ j → (ws.set k (x ||| y)).getD j 0 = oo.ws.getD j 0) := Lib.hid (fun x y hx hy => by
          subst hx hy
          exact ⟨(having_store hrel.out.1 HAB.out (by omega) (lt64_or HWa.out HWb.out)).of_heap rfl, hrel.out.2.1.step (by rw [HL2.out]; omega) (fun c hc => Nat.testBit_or _ _ _), (hrel.out.2.2.1.setCell _ _ (fun _ => .inr (by rw [HAB.out]; rfl))).drew, fun j hj => by rw [← hrel.out.2.2.2 j (by omega)]; simp only [List.getD_eq_getElem?_getD]; rw [List.getElem?_set_ne (by omega)]⟩)
        clear acs afr bcs bfr
        generalize oo.ws.getD k 0 = x at *
        generalize o2.ws.getD k 0 = y at *
        have e1 : bits .or .u64 (x : Int) (y : Int) = ((x ||| y : Nat) : Int) := or_nat HWa.out HWb.out
        have HN := Lib.hid (HST.out x y rfl rfl)
        generalize x ||| y = X at *
        clear HST
        go_wp2
        refine wp_region_still_tail 10 (by kernel_rfl) (by kernel_rfl) ?_
        simp only [List.take_succ_cons, List.take_zero, List.drop_succ_cons, List.drop_zero]
        repeat still_step
        refine wpStill_nil ?_
        go_wp2
        go_roundw
        case rel => exact ⟨k + 1, _, by omega, by go_num, Lib.hid HN.out⟩
        case measure => simp [intOf]; omega
      · have hkL : c2 = k := by omega
        subst hkL
        have hgeL : ¬ (c2 : Int) < (c2 : Int) := by omega
        obtain ⟨b0, b1, bf0, bf1, bcs, bfr, bp, bbl, bne⟩ := having_facts (o := o2) (ws := o2.ws) (H2W.out.keep hrel.out.2.2.1 (fun j hj hh => HDIS.out oo HFO.out j hh hj)) HBB.out
        rw [HM2.out] at b1
        clear bcs bfr
        have hsec : ¬ (c2 : Int) < (c2 : Int) := by omega
        have hc2L : c2 = c2 := by omega
        have HFIN : Hid (Upd o1 d w wr) := Lib.hid (HF.out oo ws w1 wr HP.out HRO.out hrel.out.1 (by rw [hc2L]; exact hrel.out.2.1) hrel.out.2.2.1 HO1.out HFO.out)
        go_wp2
        go_end0
        exact ⟨rfl, HFIN.out⟩
  · have hgt' := hgt
    have p1 : (0 : Int) < (n2 : Int) := by omega
    have p1n : 0 < n2 := by omega
    have p2 : ¬ (n1 : Int) ≤ (n2 : Int) - 1 := by omega
    replace hwr := hwr.resolve_right (by omega)
    have p3 : ¬ c2 = 0 := by omega
    unfold O.ptr
    go_enter Try.func28, Try.ntmps28
    go_wp2_with (first | (go_at_call 43; (with_reducible refine (notNil2 _ _).mono ?_); rintro e w1 ⟨rfl, rfl⟩) | (go_at_call 41; (with_reducible refine (HW1.out _ (Only.refl _ _)).mono ?_); rintro e w1 ⟨rfl, rfl⟩) | (go_at_call 41; (with_reducible refine (HW2.out _ (Only.refl _ _)).mono ?_); rintro e w1 ⟨rfl, rfl⟩))
    go_quiet (fail)
    have hg := HG0.out hle (w.drewN nq) ((Only.refl _ w).drewN nq) rfl
    generalize w.drewN nq = w1 at *
    obtain ⟨oo, hp', hok, hro, hO1, hfo⟩ := hg
    obtain ⟨ab, hab, -⟩ := hok.facts
    have HAB := Lib.hid hab
    have HOK : Hid ((oo.having oo.ws).ok w1) := Lib.hid hok
    have HO1 := Lib.hid hO1
    have HFO := Lib.hid hfo
    have HRO := Lib.hid hro
    have HP := Lib.hid hp'
    have H2W : Hid (o2.ok w1) := Lib.hid (H2.out.keep HO1.out (fun j hj hh => HDIS1.out j hh hj))
    obtain ⟨hom1, hom2⟩ := HOM.out oo hro
    clear u0 u1 v0 v1 up vp hab hok hO1 hfo hro hp'
    obtain ⟨s0, s1, sf0, sf1, scs, sfr, sp, sbl, sne⟩ := having_facts HOK.out HAB.out
    obtain ⟨t0, t1, tf0, tf1, tcs, tfr, tp, tbl, tne⟩ := having_facts (o := o2) (ws := o2.ws) H2W.out HBB.out
    rw [HP.out] at s0 s1 sf0 sf1
    rw [HM2.out] at t1 tcs
    have HSC := Lib.hid scs
    have HTC := Lib.hid tcs
    clear scs sfr tcs tfr
    have z1 := HSC.out (c2 - 1) (by omega)
    have z2 := HTC.out (c2 - 1) (by omega)
    have zi : ((c2 : Int) - 1).toNat = c2 - 1 := by omega
    have zj : (c2 : Int) - 1 < (oo.m : Int) := by omega
    have zk : (c2 : Int) - 1 < (c2 : Int) := by omega
    have zl : (0 : Int) ≤ (c2 : Int) - 1 := by omega
    have zm : (0 : Int) < (c2 : Int) := by omega
    generalize oo.ws.getD (c2 - 1) 0 = g1 at *
    generalize o2.ws.getD (c2 - 1) 0 = g2 at *
    go_wp2_with fail
    go_region_held3 (fun w' => w'.cell? ⟨o1.p, 1, none⟩ = some (.slice (some ⟨ab, 0, none⟩) oo.m oo.cap) ∧ w'.cell? ⟨o2.p, 1, none⟩ = some (.slice (some ⟨bb, 0, none⟩) c2 o2.cap)) (go_keep) (fail)
    go_wp2
    clear s0 s1 sf0 sf1 sp sbl sne t0 t1 tf0 tf1 tp tbl tne z1 z2 zi zj zk zl zm
    go_loopw [7] (fun i wr => ∃ (k : Nat) (ws : List Nat), k ≤ c2 ∧ i = .int .i64 (k : Int) ∧ Hid ((oo.having ws).ok wr ∧ WorkedD (fun x y => x || y) oo.ws o2.ws (bit oo.ws) ws k ∧ Only oo.foot w1 wr ∧ ∀ j, k ≤ j → ws.getD j 0 = oo.ws.getD j 0)) (fun i _ => c2 - (intOf i).toNat)
    case atStart => exact ⟨0, oo.ws, Nat.zero_le _, rfl, Lib.hid ⟨HOK.out.of_heap rfl, fun j => by rw [if_neg (by omega)], by repeat (first | exact Only.refl _ _ | apply Only.drew | apply Only.drewN), fun _ _ => rfl⟩⟩
    case round =>
      obtain ⟨k, ws, hk, rfl, hrel⟩ := hrel
      have HL2 := Lib.hid (having_len hrel.out.1)
      by_cases hltk : k < c2
      · have hlt' : (k : Int) < (c2 : Int) := by omega
        obtain ⟨a0, a1, af0, af1, acs, afr, ap, abl, ane⟩ := having_facts hrel.out.1 HAB.out
        obtain ⟨b0, b1, bf0, bf1, bcs, bfr, bp, bbl, bne⟩ := having_facts (o := o2) (ws := o2.ws) (H2W.out.keep hrel.out.2.2.1 (fun j hj hh => HDIS.out oo HFO.out j hh hj)) HBB.out
        have ak := acs k (by omega)
        have bk := bcs k (by rw [HM2.out]; omega)
        have fk := afr k
        have hka : (k : Int) < (oo.m : Int) := by omega
        have hkb : (k : Int) < (c2 : Int) := by omega
        have HWb : Hid (Lt64 (o2.ws.getD k 0)) := Lib.hid (H2.out.fits.at k)
        have HWa : Hid (Lt64 (oo.ws.getD k 0)) := Lib.hid (HOK.out.fits.at k)
        rw [hrel.out.2.2.2 k (Nat.le_refl _)] at ak
        have HST : Hid (∀ x y : Nat, x = oo.ws.getD k 0 → y = o2.ws.getD k 0 → (oo.having (ws.set k (x ||| y))).ok (wr.setCell ⟨ab, k, none⟩ (.int .u64 ((x ||| y : Nat) : Int))).drew ∧ WorkedD (fun x y => x || y) oo.ws o2.ws (bit oo.ws) (ws.set k (x ||| y)) (k + 1) ∧ Only oo.foot w1 (wr.setCell ⟨ab, k, none⟩ (.int .u64 ((x ||| y : Nat) : Int))).drew ∧ ∀ j, k + 1 ≤ j → (ws.set k (x ||| y)).getD j 0 = oo.ws.getD j 0) := Lib.hid (fun x y hx hy => by
          subst hx hy
          exact ⟨(having_store hrel.out.1 HAB.out (by omega) (lt64_or HWa.out HWb.out)).of_heap rfl, hrel.out.2.1.step (by rw [HL2.out]; omega) (fun c hc => Nat.testBit_or _ _ _), (hrel.out.2.2.1.setCell _ _ (fun _ => .inr (by rw [HAB.out]; rfl))).drew, fun j hj => by rw [← hrel.out.2.2.2 j (by omega)]; simp only [List.getD_eq_getElem?_getD]; rw [List.getElem?_set_ne (by omega)]⟩)
        clear acs afr bcs bfr
        generalize oo.ws.getD k 0 = x at *
        generalize o2.ws.getD k 0 = y at *
        have e1 : bits .or .u64 (x : Int) (y : Int) = ((x ||| y : Nat) : Int) := or_nat HWa.out HWb.out
        have HN := Lib.hid (HST.out x y rfl rfl)
        generalize x ||| y = X at *
        clear HST
        go_wp2
        refine wp_region_still_tail 10 (by kernel_rfl) (by kernel_rfl) ?_
        simp only [List.take_succ_cons, List.take_zero, List.drop_succ_cons, List.drop_zero]
        repeat still_step
        refine wpStill_nil ?_
        go_wp2
        go_roundw
        case rel => exact ⟨k + 1, _, by omega, by go_num, Lib.hid HN.out⟩
        case measure => simp [intOf]; omega
      · have hkL : c2 = k := by omega
        subst hkL
        have hgeL : ¬ (c2 : Int) < (c2 : Int) := by omega
        obtain ⟨b0, b1, bf0, bf1, bcs, bfr, bp, bbl, bne⟩ := having_facts (o := o2) (ws := o2.ws) (H2W.out.keep hrel.out.2.2.1 (fun j hj hh => HDIS.out oo HFO.out j hh hj)) HBB.out
        rw [HM2.out] at b1
        clear bcs bfr
        have hsec : ¬ (c2 : Int) < (c2 : Int) := by omega
        have hc2L : c2 = c2 := by omega
        have HFIN : Hid (Upd o1 d w wr) := Lib.hid (HF.out oo ws w1 wr HP.out HRO.out hrel.out.1 (by rw [hc2L]; exact hrel.out.2.1) hrel.out.2.2.1 HO1.out HFO.out)
        go_wp2
        go_end0
        exact ⟨rfl, HFIN.out⟩
  · have hgt' := hgt
    have p1 : ¬ (0 : Int) < (n2 : Int) := by omega
    have p2 : n2 = 0 := by omega
    clear hwr
    unfold O.ptr
    go_enter Try.func28, Try.ntmps28
    go_wp2_with (first | (go_at_call 43; (with_reducible refine (notNil2 _ _).mono ?_); rintro e w1 ⟨rfl, rfl⟩) | (go_at_call 41; (with_reducible refine (HW1.out _ (Only.refl _ _)).mono ?_); rintro e w1 ⟨rfl, rfl⟩) | (go_at_call 41; (with_reducible refine (HW2.out _ (Only.refl _ _)).mono ?_); rintro e w1 ⟨rfl, rfl⟩))
    go_quiet (fail)
    have hg := HG0.out hle (w.drewN nq) ((Only.refl _ w).drewN nq) rfl
    generalize w.drewN nq = w1 at *
    obtain ⟨oo, hp', hok, hro, hO1, hfo⟩ := hg
    obtain ⟨ab, hab, -⟩ := hok.facts
    have HAB := Lib.hid hab
    have HOK : Hid ((oo.having oo.ws).ok w1) := Lib.hid hok
    have HO1 := Lib.hid hO1
    have HFO := Lib.hid hfo
    have HRO := Lib.hid hro
    have HP := Lib.hid hp'
    have H2W : Hid (o2.ok w1) := Lib.hid (H2.out.keep HO1.out (fun j hj hh => HDIS1.out j hh hj))
    obtain ⟨hom1, hom2⟩ := HOM.out oo hro
    clear u0 u1 v0 v1 up vp hab hok hO1 hfo hro hp'
    obtain ⟨s0, s1, sf0, sf1, scs, sfr, sp, sbl, sne⟩ := having_facts HOK.out HAB.out
    obtain ⟨t0, t1, tf0, tf1, tcs, tfr, tp, tbl, tne⟩ := having_facts (o := o2) (ws := o2.ws) H2W.out HBB.out
    rw [HP.out] at s0 s1 sf0 sf1
    rw [HM2.out] at t1 tcs
    have HSC := Lib.hid scs
    have HTC := Lib.hid tcs
    clear scs sfr tcs tfr
    have zm : ¬ (0 : Int) < (c2 : Int) := by omega
    have zn : c2 = 0 := by omega
    obtain ⟨ws, hrel⟩ : ∃ ws, Hid ((oo.having ws).ok w1 ∧ WorkedD (fun x y => x || y) oo.ws o2.ws (bit oo.ws) ws 0 ∧ Only oo.foot w1 w1 ∧ True) := ⟨oo.ws, Lib.hid ⟨HOK.out, fun j => by rw [if_neg (by omega)], Only.refl _ _, trivial⟩⟩
    obtain ⟨b0, b1, bf0, bf1, bcs, bfr, bp, bbl, bne⟩ := having_facts (o := o2) (ws := o2.ws) (H2W.out.keep hrel.out.2.2.1 (fun j hj hh => HDIS.out oo HFO.out j hh hj)) HBB.out
    rw [HM2.out] at b1
    clear bcs bfr
    have hsec : ¬ (0 : Int) < (c2 : Int) := by omega
    have hc2L : c2 = 0 := by omega
    have HFIN : Hid (Upd o1 d w w1) := Lib.hid (HF.out oo ws w1 w1 HP.out HRO.out hrel.out.1 (by rw [hc2L]; exact hrel.out.2.1) hrel.out.2.2.1 HO1.out HFO.out)
    go_wp2
    go_end0
    exact ⟨rfl, HFIN.out⟩
end Go.Proofs.Ytgndpckcdageiaa.bs

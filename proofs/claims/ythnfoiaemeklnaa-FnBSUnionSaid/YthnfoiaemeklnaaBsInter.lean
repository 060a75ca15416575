/-
  Bitsets: Intersection, Difference.
-/
import Derived.Test.YthnfoiaemeklnaaBsClone
namespace Go.Proofs.Ythnfoiaemeklnaa.bs
open Go.RowKit Go.Proofs.Ythnfoiaemeklnaa.base Go.Proofs.Ythnfoiaemeklnaa.heap Go.Proofs.Ythnfoiaemeklnaa.bit
set_option linter.unusedVariables false

/-- word by word: the first k words have been worked on, the others are D -/
def WorkedD (f : Bool → Bool → Bool) (sw lw : List Nat) (D : Nat → Bool) (ws : List Nat) (k : Nat) : Prop := ∀ j, bit ws j = if j < 64 * k then f (bit sw j) (bit lw j) else D j
theorem WorkedD.step {f : Bool → Bool → Bool} {sw lw ws : List Nat} {D : Nat → Bool} {k X : Nat} (h : WorkedD f sw lw D ws k) (hk : k < ws.length) (hX : ∀ c, c < 64 → X.testBit c = f ((sw.getD k 0).testBit c) ((lw.getD k 0).testBit c)) : WorkedD f sw lw D (ws.set k X) (k + 1) := by
  intro j
  rw [bit_set _ _ _ _ hk]
  by_cases hj : j / 64 = k
  · rw [if_pos hj, hX _ (Nat.mod_lt _ (by omega)), if_pos (by omega)]
    unfold bit
    rw [hj]
  · rw [if_neg hj, h j]
    by_cases c : j < 64 * k
    · rw [if_pos c, if_pos (by omega)]
    · rw [if_neg c, if_neg (by omega)]
theorem bit_zeros (n j : Nat) : bit (List.replicate n 0) j = false := by
  unfold bit
  have : (List.replicate n 0).getD (j / 64) 0 = 0 := by
    simp only [List.getD_eq_getElem?_getD, List.getElem?_replicate]
    split <;> rfl
  rw [this, Nat.zero_testBit]

set_option maxRecDepth 100000 in
set_option maxHeartbeats 3200000 in
theorem inter_core (p1 p2 : Nat) (s l : O) (bs bl : List Bool) (w : World) (h1 : s.ok w) (h2 : l.ok w) (r1 : s.rep bs) (r2 : l.rep bl) (hle : bs.length ≤ bl.length) (ts : s.tight bs) (tl : l.tight bl) (hn : bl.length ≤ 1048000)
    (hs : Calls Try.prog 79 #[.pointer (some ⟨p1, 0, none⟩), .pointer (some ⟨p2, 0, none⟩)] w fun e w' => e = .returned (.tuple #[s.ptr, l.ptr]) ∧ ∃ m, w' = w.drewN m) :
    Calls Try.prog 62 #[.pointer (some ⟨p1, 0, none⟩), .pointer (some ⟨p2, 0, none⟩)] w (FObj w (twoL (fun x y => x && y) bs bl bs.length)) := by
  have HS := Lib.hid hs
  have HCL := Lib.hid (fun m => new bs.length (w.drewN m) (by omega))
  have HC0 := Lib.hid (fun (wx : World) (hx : wx.heap = w.heap) => (h1.of_heap hx).cells)
  rw [r1.len] at HC0
  have H1 := Lib.hid h1
  have H2 := Lib.hid h2
  have R1 := Lib.hid r1
  have R2 := Lib.hid r2
  have hsm : s.m ≤ l.m := by rw [ts, tl]; omega
  have HTL := Lib.hid tl
  have HTS := Lib.hid ts
  clear hs h1 h2 r1 r2 ts tl
  unfold O.ptr at *
  go_enter Try.func62, Try.ntmps62
  go_wp2_with (go_at_call 74; (with_reducible refine (notNil2 _ _).mono ?_); rintro e w1 ⟨rfl, rfl⟩)
  refine HS.out.mono ?_
  rintro e w2 ⟨rfl, m, rfl⟩
  obtain ⟨c0, c1, f0, f1⟩ := HC0.out (w.drewN m) rfl
  go_wp2_with fail
  refine (HCL.out m).mono ?_
  rintro e w3 ⟨o, rfl, hok, hn0, hm, hws, hcap, hO, hf⟩
  try unfold O.ptr
  have hz : ∀ j, bit o.ws j = false := fun j => by rw [hws]; exact bit_zeros _ j
  have HZ := Lib.hid hz
  have hom2 : bs.length ≤ 64 * o.m := by rw [hm]; omega
  have hO1 : Same w w3 := Only.trans ((Only.refl (fun _ => False) w).drewN m) hO (fun _ _ f => f)
  have hfr : ∀ k, o.foot k → w.heap.size ≤ k := fun k hk => by have := hf k hk; simpa using this
  obtain ⟨sb, hsb, -⟩ := H1.out.facts
  obtain ⟨lb, hlb, -⟩ := H2.out.facts
  obtain ⟨ob, hob, -⟩ := hok.facts
  have HSB := Lib.hid hsb
  have HLB := Lib.hid hlb
  have HOB := Lib.hid hob
  have HO1 := Lib.hid hO1
  have HFR := Lib.hid hfr
  have HOK : Hid ((o.having o.ws).ok w3) := Lib.hid hok
  have HON := Lib.hid hn0
  have hom : s.m ≤ o.m := by rw [hm]; exact Nat.le_of_eq HTS.out
  have HOM := Lib.hid hm
  obtain ⟨a0, a1, -⟩ := having_facts (o := s) (ws := s.ws) (H1.out.keep hO1 (fun _ _ => id)) hsb
  clear hsb hlb hob hO1 hfr hok hn0 hm hws hcap hz hO hf c0 c1 f0 f1
  have hsl : s.m ≤ 20000 := by have h1 := HTS.out; unfold O.tight at h1; omega
  go_wp2_with fail
  go_loopw [5, 6, 27] (fun _ _ i wr => ∃ (k : Nat) (ws : List Nat), k ≤ s.m ∧ i = .int .i64 (k : Int) ∧ Hid ((o.having ws).ok wr ∧ WorkedD (fun x y => x && y) s.ws l.ws (fun _ => false) ws k ∧ Only o.foot w3 wr)) (fun _ _ i _ => s.m - (intOf i).toNat)
  case atStart => exact ⟨0, o.ws, Nat.zero_le _, rfl, Lib.hid ⟨HOK.out, fun j => by rw [if_neg (by omega)]; exact HZ.out j, Only.refl _ _⟩⟩
  case round =>
    obtain ⟨k, ws, hk, rfl, hrel⟩ := hrel
    clear a0 a1
    have HSW : Hid (Same w wr) := Lib.hid (Only.trans HO1.out hrel.out.2.2 (fun j hj hh => absurd (HFR.out j hh) (by omega)))
    have HL2 := Lib.hid (having_len hrel.out.1)
    by_cases hlt : k < s.m
    · have hlt' : (k : Int) < (s.m : Int) := by omega
      obtain ⟨a0, a1, af0, af1, acs, afr, ap, abl, ane⟩ := having_facts (o := s) (ws := s.ws) (H1.out.keep HSW.out (fun _ _ => id)) HSB.out
      obtain ⟨b0, b1, bf0, bf1, bcs, bfr, bp, bbl, bne⟩ := having_facts (o := l) (ws := l.ws) (H2.out.keep HSW.out (fun _ _ => id)) HLB.out
      obtain ⟨c0, c1, cf0, cf1, ccs, cfr, cp, cbl, cne⟩ := having_facts hrel.out.1 HOB.out
      have ak := acs k hlt
      have bk := bcs k (by omega)
      have ck := ccs k (by omega)
      have fk := cfr k
      have hkl : (k : Int) < (l.m : Int) := by omega
      have hko : (k : Int) < (o.m : Int) := by omega
      have HWa : Hid (Lt64 (s.ws.getD k 0)) := Lib.hid (H1.out.fits.at k)
      have HWb : Hid (Lt64 (l.ws.getD k 0)) := Lib.hid (H2.out.fits.at k)
      have HST : Hid (∀ x y : Nat, x = s.ws.getD k 0 → y = l.ws.getD k 0 → (o.having (ws.set k (x &&& y))).ok (wr.setCell ⟨ob, k, none⟩ (.int .u64 ((x &&& y : Nat) : Int))).drew ∧ WorkedD (fun x y => x && y) s.ws l.ws (fun _ => false) (ws.set k (x &&& y)) (k + 1) ∧ Only o.foot w3 (wr.setCell ⟨ob, k, none⟩ (.int .u64 ((x &&& y : Nat) : Int))).drew) := Lib.hid (fun x y hx hy => by
        subst hx hy
        exact ⟨(having_store hrel.out.1 HOB.out (by omega) (lt64_and HWa.out)).of_heap rfl, hrel.out.2.1.step (by rw [HL2.out]; omega) (fun c _ => Nat.testBit_and _ _ _), (hrel.out.2.2.setCell _ _ (fun _ => .inr (by rw [HOB.out]; rfl))).drew⟩)
      clear acs afr bcs bfr ccs cfr
      generalize s.ws.getD k 0 = x at *
      generalize l.ws.getD k 0 = y at *
      have e1 : bits .and .u64 (x : Int) (y : Int) = ((x &&& y : Nat) : Int) := and_nat HWa.out HWb.out
      have HN := Lib.hid (HST.out x y rfl rfl)
      generalize x &&& y = X at *
      generalize ws.getD k 0 = z at *
      clear HST
      go_wp2
      refine wp_region_still_tail 15 (by kernel_rfl) (by kernel_rfl) ?_
      simp only [List.take_succ_cons, List.take_zero, List.drop_succ_cons, List.drop_zero]
      repeat still_step
      refine wpStill_nil ?_
      go_wp2
      go_roundw
      case rel => exact ⟨k + 1, _, by omega, by go_num, Lib.hid HN.out⟩
      case measure => simp [intOf]; omega
    · obtain rfl : k = s.m := by omega
      have hge : ¬ (s.m : Int) < (s.m : Int) := by omega
      have HF : Hid (FObj w (twoL (fun x y => x && y) bs bl bs.length) (.returned (.pointer (some ⟨o.p, 0, none⟩))) wr) := Lib.hid (by
        refine fresh_fin (b0 := bl) hrel.out.1 ⟨by rw [twoL_len]; exact HON.out, by rw [twoL_len]; exact hom2, fun j => ?_⟩ (by rw [twoL_len]; exact HOM.out) HO1.out hrel.out.2.2 HFR.out
        show bit ws j = _
        rw [hrel.out.2.1 j, twoL_get, R1.out.bits, R2.out.bits]
        have hroom := R1.out.room
        by_cases c : j < 64 * s.m
        · rw [if_pos c]
          by_cases c2 : j < bs.length
          · rw [decide_eq_true c2, Bool.true_and]
          · have : bs.getD j false = false := by simp [show bs.length ≤ j by omega]
            rw [this]; simp
        · rw [if_neg c, decide_eq_false (show ¬ j < bs.length by omega), Bool.false_and])
      go_wp2
      go_ret
      exact HF.out

/-- a word without the bits of another one -/
def anot (x y : Nat) : Nat := x &&& inv y
theorem anot_eq {x y : Nat} (hx : Lt64 x) (hy : Lt64 y) : bits .andNot .u64 (x : Int) (y : Int) = (anot x y : Int) := u64_andNot_nat x y hx hy
theorem anot_lt {x y : Nat} (hx : Lt64 x) : Lt64 (anot x y) := lt64_and hx
theorem anot_bit {x y : Nat} (hx : Lt64 x) (hy : Lt64 y) (k : Nat) (hk : k < 64) : (anot x y).testBit k = (x.testBit k && !y.testBit k) := by
  unfold anot
  rw [Nat.testBit_and, inv_bit hy hk]

set_option maxRecDepth 100000 in
set_option maxHeartbeats 3200000 in
theorem difference (o1 o2 : O) (b b2 : List Bool) (w : World) (h1 : o1.ok w) (h2 : o2.ok w) (r1 : o1.rep b) (r2 : o2.rep b2) (t1 : o1.tight b) (hn : b.length ≤ 1048000) (hn2 : b2.length ≤ 1048000) :
    Calls Try.prog 63 #[o1.ptr, o2.ptr] w (FObj w (twoL (fun x y => x && !y) b b2 b.length)) := by
  have HCL := Lib.hid (clone o1 b w h1 r1 t1 hn)
  have H1 := Lib.hid h1
  have H2 := Lib.hid h2
  have R1 := Lib.hid r1
  have R2 := Lib.hid r2
  obtain ⟨c1, hc1⟩ : ∃ c1, (b.length + 63) / 64 = c1 := ⟨_, rfl⟩
  obtain ⟨c2, hc2⟩ : ∃ c2, (b2.length + 63) / 64 = c2 := ⟨_, rfl⟩
  have HW1 : Hid (∀ wx, Same w wx → Calls Try.prog 71 #[.pointer (some ⟨o1.p, 0, none⟩)] wx fun e w' => e = .returned (.int .i64 (c1 : Int)) ∧ wx = w') := Lib.hid (fun wx hx => by
    have := wordCount o1 wx (h1.keep hx (fun _ _ => id)) (by rw [r1.len]; omega)
    rw [r1.len, hc1] at this
    exact this.mono fun e w' ⟨he, hw⟩ => ⟨he, hw.symm⟩)
  have HW2 : Hid (∀ wx, Same w wx → Calls Try.prog 71 #[.pointer (some ⟨o2.p, 0, none⟩)] wx fun e w' => e = .returned (.int .i64 (c2 : Int)) ∧ wx = w') := Lib.hid (fun wx hx => by
    have := wordCount o2 wx (h2.keep hx (fun _ _ => id)) (by rw [r2.len]; omega)
    rw [r2.len, hc2] at this
    exact this.mono fun e w' ⟨he, hw⟩ => ⟨he, hw.symm⟩)
  have hm1 : c1 ≤ o1.m := by rw [t1]; omega
  have hm2 : c2 ≤ o2.m := by have := r2.room; omega
  have hcb1 : c1 ≤ 20000 := by omega
  obtain ⟨L, hL⟩ : ∃ L, min c1 c2 = L := ⟨_, rfl⟩
  have hL1 : L ≤ c1 := by omega
  have hL2 : L ≤ c2 := by omega
  have hLl : b.length ≤ 64 * L ∨ b2.length ≤ 64 * L := by omega
  clear h1 h2 r1 r2 t1 hc2
  have hLu : L ≤ 20000 := by omega
  have hcase : (c1 < c2 ∧ L = c1) ∨ (¬ c1 < c2 ∧ L = c2) := by omega
  clear hL
  rcases hcase with ⟨hgt, rfl⟩ | ⟨hgt, rfl⟩
  all_goals
    unfold O.ptr at *
    go_enter Try.func63, Try.ntmps63
    go_wp2_with (go_at_call 74; (with_reducible refine (notNil2 _ _).mono ?_); rintro e w1 ⟨rfl, rfl⟩)
    refine HCL.out.mono ?_
    rintro e w3 ⟨o, rfl, hok, hrep, hm, hO1, hfr⟩
    unfold O.ptr
    obtain ⟨ob, hob, -⟩ := hok.facts
    obtain ⟨ab, hab, -⟩ := H1.out.facts
    obtain ⟨bb, hbb, -⟩ := H2.out.facts
    have HAB := Lib.hid hab
    have HBB := Lib.hid hbb
    have HOB := Lib.hid hob
    have HO1 := Lib.hid hO1
    have HFR := Lib.hid hfr
    have HOK : Hid ((o.having o.ws).ok w3) := Lib.hid hok
    have HREP := Lib.hid hrep
    have hom : L ≤ o.m := by omega
    have HOM := Lib.hid hm
    clear hab hbb hob hO1 hfr hok hrep hm
    go_wp2_with (first | (go_at_call 71; (with_reducible refine (HW1.out _ HO1.out).mono ?_); rintro e w1 ⟨rfl, rfl⟩) | (go_at_call 71; (with_reducible refine (HW2.out _ HO1.out).mono ?_); rintro e w1 ⟨rfl, rfl⟩))
    go_loopw [6] (fun i wr => ∃ (k : Nat) (ws : List Nat), k ≤ L ∧ i = .int .i64 (k : Int) ∧ Hid ((o.having ws).ok wr ∧ WorkedD (fun x y => x && !y) o1.ws o2.ws (bit o1.ws) ws k ∧ Only o.foot w3 wr)) (fun i _ => L - (intOf i).toNat)
    case atStart => exact ⟨0, o.ws, Nat.zero_le _, rfl, Lib.hid ⟨HOK.out, fun j => by rw [if_neg (by omega), HREP.out.bits, R1.out.bits], Only.refl _ _⟩⟩
    case round =>
      obtain ⟨k, ws, hk, rfl, hrel⟩ := hrel
      have HSW : Hid (Same w wr) := Lib.hid (Only.trans HO1.out hrel.out.2.2 (fun j hj hh => absurd (HFR.out j hh) (by omega)))
      have HL2 := Lib.hid (having_len hrel.out.1)
      by_cases hlt : k < L
      · have hlt' : (k : Int) < (L : Int) := by omega
        obtain ⟨a0, a1, af0, af1, acs, afr, ap, abl, ane⟩ := having_facts (o := o1) (ws := o1.ws) (H1.out.keep HSW.out (fun _ _ => id)) HAB.out
        obtain ⟨b0, b1, bf0, bf1, bcs, bfr, bp, bbl, bne⟩ := having_facts (o := o2) (ws := o2.ws) (H2.out.keep HSW.out (fun _ _ => id)) HBB.out
        obtain ⟨c0, c1', cf0, cf1, ccs, cfr, cp, cbl, cne⟩ := having_facts hrel.out.1 HOB.out
        have ak := acs k (by omega)
        have bk := bcs k (by omega)
        have ck := ccs k (by omega)
        have fk := cfr k
        have hka : (k : Int) < (o1.m : Int) := by omega
        have hkb : (k : Int) < (o2.m : Int) := by omega
        have hko : (k : Int) < (o.m : Int) := by omega
        have HWa : Hid (Lt64 (o1.ws.getD k 0)) := Lib.hid (H1.out.fits.at k)
        have HWb : Hid (Lt64 (o2.ws.getD k 0)) := Lib.hid (H2.out.fits.at k)
        have HST : Hid (∀ x y : Nat, x = o1.ws.getD k 0 → y = o2.ws.getD k 0 → (o.having (ws.set k (anot x y))).ok (wr.setCell ⟨ob, k, none⟩ (.int .u64 (anot x y : Int))).drew ∧ WorkedD (fun x y => x && !y) o1.ws o2.ws (bit o1.ws) (ws.set k (anot x y)) (k + 1) ∧ Only o.foot w3 (wr.setCell ⟨ob, k, none⟩ (.int .u64 (anot x y : Int))).drew) := Lib.hid (fun x y hx hy => by
          subst hx hy
          exact ⟨(having_store hrel.out.1 HOB.out (by omega) (anot_lt HWa.out)).of_heap rfl, hrel.out.2.1.step (by rw [HL2.out]; show k < o.m; omega) (fun c hc => anot_bit HWa.out HWb.out c hc), (hrel.out.2.2.setCell _ _ (fun _ => .inr (by rw [HOB.out]; rfl))).drew⟩)
        clear acs afr bcs bfr ccs cfr
        generalize o1.ws.getD k 0 = x at *
        generalize o2.ws.getD k 0 = y at *
        have e1 : bits .andNot .u64 (x : Int) (y : Int) = (anot x y : Int) := anot_eq HWa.out HWb.out
        have HN := Lib.hid (HST.out x y rfl rfl)
        generalize anot x y = X at *
        generalize ws.getD k 0 = z at *
        clear HST
        go_wp2
        refine wp_region_still_tail 21 (by kernel_rfl) (by kernel_rfl) ?_
        simp only [List.take_succ_cons, List.take_zero, List.drop_succ_cons, List.drop_zero]
        repeat still_step
        refine wpStill_nil ?_
        go_wp2
        go_roundw
        case rel => exact ⟨k + 1, _, by omega, by go_num, Lib.hid HN.out⟩
        case measure => simp [intOf]; omega
      · obtain rfl : k = L := by omega
        have hge : ¬ (k : Int) < (k : Int) := by omega
        have HF : Hid (FObj w (twoL (fun x y => x && !y) b b2 b.length) (.returned (.pointer (some ⟨o.p, 0, none⟩))) wr) := Lib.hid (by
          refine fresh_fin (b0 := b) hrel.out.1 ⟨by rw [twoL_len]; exact HREP.out.len, by rw [twoL_len]; exact HREP.out.room, fun j => ?_⟩ (by rw [twoL_len]; exact HOM.out) HO1.out hrel.out.2.2 HFR.out
          show bit ws j = _
          rw [hrel.out.2.1 j, twoL_get, R1.out.bits, R2.out.bits]
          by_cases c : j < b.length
          · rw [decide_eq_true c, Bool.true_and]
            by_cases c2 : j < 64 * k
            · rw [if_pos c2]
            · rw [if_neg c2]
              have : b2.getD j false = false := by simp [show b2.length ≤ j by omega]
              rw [this]; simp
          · have : b.getD j false = false := by simp [show b.length ≤ j by omega]
            rw [decide_eq_false c, this]; simp)
        go_wp2
        go_ret
        exact HF.out

/-- the last word's mask -/
theorem mask_low2 {x r : Nat} (hx : Lt64 x) (hr : 0 < r) (hr2 : r < 64) : bits .and .u64 (x : Int) (18446744073709551615 / 2 ^ (64 - r)) = ((x % 2 ^ r : Nat) : Int) := by
  have e : (18446744073709551615 : Nat) / 2 ^ (64 - r) = 2 ^ r - 1 := by
    have h1 : (2:Nat) ^ 64 = 2 ^ (64 - r) * 2 ^ r := by rw [← Nat.pow_add]; congr 1; omega
    have h2 : ∀ y, y = (2 : Nat) ^ 64 → (18446744073709551615 : Nat) / 2 ^ (64 - r) = (y - 1) / 2 ^ (64 - r) := fun y hy => by subst hy; rfl
    have hp : 0 < 2 ^ (64 - r) := Nat.two_pow_pos _
    have hq : 0 < 2 ^ r := Nat.two_pow_pos _
    rw [h2 _ h1.symm]
    clear h1 h2
    obtain ⟨q, hq'⟩ : ∃ q, 2 ^ r = q + 1 := ⟨2 ^ r - 1, by omega⟩
    obtain ⟨s, hs⟩ : ∃ s, 2 ^ (64 - r) = s + 1 := ⟨2 ^ (64 - r) - 1, by omega⟩
    rw [hq', hs]
    have : (s + 1) * (q + 1) - 1 = s + (s + 1) * q := by rw [Nat.mul_add, Nat.mul_one]; omega
    rw [this, Nat.add_mul_div_left _ _ (by omega), Nat.div_eq_of_lt (by omega)]
    omega
  have e2 : (18446744073709551615 : Int) / 2 ^ (64 - r) = ((2 ^ r - 1 : Nat) : Int) := by
    rw [← e, Int.natCast_ediv, Int.natCast_pow]; rfl
  rw [e2, and_nat hx (by have := lt64_pow hr2; unfold Lt64 at *; omega), Nat.and_two_pow_sub_one_eq_mod]

/-- the last word, cleaned -/
def Cleaned (o : O) (w : World) (e : Ending) (w' : World) : Prop := e = .returned (.tuple #[]) ∧ ∃ ws, (o.having ws).ok w' ∧ Only o.foot w w' ∧ ∀ j, bit ws j = (decide (j < o.n) && bit o.ws j)

theorem lenExact (o : O) (w : World) (h : o.ok w) (hn : o.n ≤ 1048576) (x : Bool) (hx : decide (o.n % 64 = 0) = x) : Calls Try.prog 88 #[o.ptr] w fun e w' => e = .returned (.bool x) ∧ ∃ m, w' = w.drewN m := by
  obtain ⟨c0, c1, f0, f1⟩ := h.cells
  have HI := Lib.hid (fun wx => wordsIndex o.n (by omega) wx)
  have hb : (((o.n % 64 : Nat) : Int) == 0) = x := by
    rw [← hx]
    by_cases h0 : o.n % 64 = 0
    · rw [h0]; rfl
    · rw [decide_eq_false h0, beq_eq_false_iff_ne]; omega
  generalize o.n % 64 = r at *
  have HB := Lib.hid hb
  clear h hx hb
  unfold O.ptr
  go_enter Try.func88, Try.ntmps88
  go_wp2_with (go_at_call 72; (with_reducible refine (HI.out _).mono ?_); rintro e w1 ⟨rfl, rfl⟩)
  go_ret
  exact ⟨by rw [← HB.out]; rfl, 0, rfl⟩

set_option maxRecDepth 100000 in
set_option maxHeartbeats 1600000 in
theorem cleanLastWord (o : O) (w : World) (h : o.ok w) (hm : o.m = (o.n + 63) / 64) (hn : o.n ≤ 1048576) :
    Calls Try.prog 78 #[o.ptr] w (Cleaned o w) := by
  by_cases h0 : o.n % 64 = 0
  · have HE := Lib.hid (lenExact o w h hn true (decide_eq_true h0))
    have HF : Hid (∀ m, Cleaned o w (.returned (.tuple #[])) (w.drewN m)) := Lib.hid (fun m => ⟨rfl, o.ws, h.of_heap rfl, (Only.refl _ w).drewN m, fun j => by
      by_cases hj : j < o.n
      · rw [decide_eq_true hj, Bool.true_and]
      · rw [decide_eq_false hj, Bool.false_and]
        unfold bit
        have hl := h.len
        have : o.ws.getD (j / 64) 0 = 0 := by simp [show o.ws.length ≤ j / 64 by omega]
        rw [this, Nat.zero_testBit]⟩)
    clear h hm hn h0
    unfold O.ptr at *
    go_enter Try.func78, Try.ntmps78
    go_wp2_with fail
    refine HE.out.mono ?_
    rintro e w1 ⟨rfl, m, rfl⟩
    go_wp2_with fail
    go_end0
    exact HF.out m
  · have HE := Lib.hid (lenExact o w h hn false (decide_eq_false h0))
    obtain ⟨bb, hbb, -⟩ := h.facts
    have H : Hid ((o.having o.ws).ok w) := Lib.hid h
    obtain ⟨c0, c1, f0, f1, hcs, hfr, hp, hbl, hne⟩ := having_facts H.out hbb
    obtain ⟨r, hr⟩ : ∃ r, o.n % 64 = r := ⟨_, rfl⟩
    have HI : Hid (∀ wx, Calls Try.prog 72 #[.int .u64 (o.n : Int)] wx fun e w' => e = .returned (.int .u64 (r : Int)) ∧ w' = wx) := Lib.hid (fun wx => by
      have := wordsIndex o.n (by omega) wx
      rwa [hr] at this)
    have hr0 : 0 < r := by omega
    have hr64 : r < 64 := by omega
    have hm1 : o.m - 1 < o.m := by omega
    have hlen := having_len H.out
    have ck := hcs (o.m - 1) hm1
    have fk := hfr (o.m - 1)
    have HWx : Hid (Lt64 (o.ws.getD (o.m - 1) 0)) := Lib.hid (h.fits.at _)
    have HST : Hid (∀ x : Nat, x = o.ws.getD (o.m - 1) 0 → ∀ wx : World, wx.heap = (w.setCell ⟨bb, o.m - 1, none⟩ (.int .u64 ((x % 2 ^ r : Nat) : Int))).heap → Only o.foot w wx → Cleaned o w (.returned (.tuple #[])) wx) := Lib.hid (fun x hx wx hwx hO => by
      subst hx
      have hxl : Lt64 (o.ws.getD (o.m - 1) 0 % 2 ^ r) := Nat.lt_of_le_of_lt (Nat.mod_le _ _) HWx.out
      refine ⟨rfl, _, (having_store H.out hbb hm1 hxl).of_heap hwx, hO, fun j => ?_⟩
      rw [bit_set _ _ _ _ (by rw [hlen]; exact hm1)]
      by_cases hj : j / 64 = o.m - 1
      · rw [if_pos hj, Nat.testBit_mod_two_pow]
        have e : (decide (j % 64 < r)) = decide (j < o.n) := by rw [decide_eq_decide]; omega
        rw [e]
        unfold bit
        rw [hj]
      · rw [if_neg hj]
        by_cases hjn : j < o.n
        · rw [decide_eq_true hjn, Bool.true_and]
        · rw [decide_eq_false hjn, Bool.false_and]
          unfold bit
          have : o.ws.getD (j / 64) 0 = 0 := by simp [show o.ws.length ≤ j / 64 by omega]
          rw [this, Nat.zero_testBit])
    have HO2 : Hid (∀ v m, Only o.foot w ((w.drewN m).setCell ⟨bb, o.m - 1, none⟩ v).drew) := Lib.hid (fun v m => (((Only.refl o.foot w).drewN m).setCell _ _ (fun _ => .inr (by rw [hbb]; rfl))).drew)
    have t1 : ((o.m : Int) - 1).toNat = o.m - 1 := by omega
    have t2 : (0 : Int) ≤ (o.m : Int) - 1 := by omega
    have t3 : (o.m : Int) - 1 < (o.m : Int) := by omega
    have t4 : IntKind.i64.wrap ((o.m : Int) - 1) = (o.m : Int) - 1 := by rw [IntKind.wrap_i64]; omega
    have t5 : (1 : Int) ≤ (o.m : Int) := by omega
    have t6 : 1 ≤ o.m := by omega
    have t7 : 0 < o.m := by omega
    have t8 : IntKind.u64.wrap (64 - (r : Int)) = 64 - (r : Int) := by rw [IntKind.wrap_u64]; omega
    have t9 : (0 : Int) ≤ 64 - (r : Int) := by omega
    have t10 : (64 - (r : Int)).toNat = 64 - r := by omega
    clear hcs hfr h hr h0 hlen hm
    generalize o.ws.getD (o.m - 1) 0 = x at *
    have e1 : bits .and .u64 (x : Int) (18446744073709551615 / 2 ^ (64 - r)) = ((x % 2 ^ r : Nat) : Int) := mask_low2 HWx.out hr0 hr64
    have HN := Lib.hid (HST.out x rfl)
    generalize x % 2 ^ r = X at *
    clear HST
    unfold O.ptr at *
    go_enter Try.func78, Try.ntmps78
    go_wp2_with fail
    refine HE.out.mono ?_
    rintro e w1 ⟨rfl, m, hw1⟩
    have HW1 := Lib.hid hw1
    have d0 : w1.cell? ⟨o.p, 0, none⟩ = some (.int .u64 (o.n : Int)) := by rw [hw1]; exact c0
    have d1 : w1.cell? ⟨o.p, 1, none⟩ = some (.slice (some ⟨bb, 0, none⟩) o.m o.cap) := by rw [hw1]; exact c1
    have dk : w1.cell? ⟨bb, o.m - 1, none⟩ = some (.int .u64 (x : Int)) := by rw [hw1]; exact ck
    have dfk : w1.frozen? ⟨bb, o.m - 1, none⟩ = false := by rw [hw1]; exact fk
    clear hw1 c0 c1 ck fk f0 f1
    go_wp2_with fail
    refine wp_region_still_tail 21 (by kernel_rfl) (by kernel_rfl) ?_
    simp only [List.take_succ_cons, List.take_zero, List.drop_succ_cons, List.drop_zero]
    repeat still_step
    still_call (HI.out _)
    repeat still_step
    refine wpStill_nil ?_
    go_wp2
    go_end0
    have hw1 := HW1.out
    subst hw1
    exact HN.out _ rfl (HO2.out _ m)
end Go.Proofs.Ythnfoiaemeklnaa.bs

/-
  Bitsets: SetRange, FlipRange.
-/
import Derived.Test.YtgndpckcdageiaaBsExt
import Derived.Test.YtgndpckcdageiaaBsLists
import Derived.Deep.DeepCutAuto
namespace Go.Proofs.Ytgndpckcdageiaa.bs
open Go.RowKit Go.Proofs.Ytgndpckcdageiaa.base Go.Proofs.Ytgndpckcdageiaa.heap Go.Proofs.Ytgndpckcdageiaa.bit
set_option linter.unusedVariables false

/-- the same bitset, with other words -/
def O.having (o : O) (ws : List Nat) : O := { o with ws := ws }
theorem having_facts {o : O} {ws : List Nat} {w : World} {bb : Nat} (h : (o.having ws).ok w) (ha : o.a = some ⟨bb, 0, none⟩) :
    w.cell? ⟨o.p, 0, none⟩ = some (.int .u64 (o.n : Int)) ∧ w.cell? ⟨o.p, 1, none⟩ = some (.slice (some ⟨bb, 0, none⟩) o.m o.cap) ∧ w.frozen? ⟨o.p, 0, none⟩ = false ∧ w.frozen? ⟨o.p, 1, none⟩ = false ∧
    (∀ i, i < o.m → w.cell? ⟨bb, i, none⟩ = some (.int .u64 (ws.getD i 0 : Nat))) ∧ (∀ i, w.frozen? ⟨bb, i, none⟩ = false) ∧ o.p < w.heap.size ∧ bb < w.heap.size ∧ bb ≠ o.p := by
  obtain ⟨b', hb', hp, hbl, hne, c0, c1, f0, f1, hcs, hfr, _, _⟩ := h.facts
  have : bb = b' := by
    have h2 : o.a = some ⟨b', 0, none⟩ := hb'
    rw [ha] at h2
    cases h2
    rfl
  subst this
  exact ⟨c0, c1, f0, f1, hcs, hfr, hp, hbl, hne⟩
theorem having_store {o : O} {ws : List Nat} {j x bb : Nat} {w : World} (h : (o.having ws).ok w) (ha : o.a = some ⟨bb, 0, none⟩) (hj : j < o.m) (hx : Lt64 x) : (o.having (ws.set j x)).ok (w.setCell ⟨bb, j, none⟩ (.int .u64 (x : Int))) :=
  O.ok.store (o := o.having ws) ha h hj hx rfl
theorem having_len {o : O} {ws : List Nat} {w : World} (h : (o.having ws).ok w) : ws.length = o.m := h.len

theorem neg_index (t : Nat) (ht : 0 < t) (ht2 : t ≤ 1048576) (w : World) : Calls Try.prog 39 #[.int .u64 (IntKind.u64.wrap (-(t : Int)))] w fun e w' => e = .returned (.int .u64 (((64 - t % 64) % 64 : Nat) : Int)) ∧ w' = w := by
  have h := Lib.hid (show bits .and .u64 (IntKind.u64.wrap (-(t : Int))) 63 = (((64 - t % 64) % 64 : Nat) : Int) by
    have e : IntKind.u64.wrap (-(t : Int)) = ((18446744073709551616 - t : Nat) : Int) := by rw [IntKind.wrap_u64]; omega
    rw [e, mask63 (by unfold Lt64; omega)]
    congr 1
    omega)
  generalize IntKind.u64.wrap (-(t : Int)) = y at *
  go_enter Try.func39, Try.ntmps39
  go_wp2
  go_ret
  exact ⟨by rw [← h.out]; rfl, rfl⟩

/-! ### what a word's change does to the bits -/
theorem or_step {ws : List Nat} {q M f p p' : Nat} (B : Nat → Bool) (hq : q < ws.length) (hM : ∀ k, k < 64 → M.testBit k = decide (f ≤ 64 * q + k ∧ 64 * q + k < p')) (hP : ∀ j, bit ws j = if f ≤ j ∧ j < p then true else B j)
    (hpp : p ≤ p') (hpq : ∀ j, j / 64 ≠ q → f ≤ j → j < p' → j < p) : ∀ j, bit (ws.set q (ws.getD q 0 ||| M)) j = if f ≤ j ∧ j < p' then true else B j := by
  intro j
  rw [bit_set _ _ _ _ hq]
  by_cases h : j / 64 = q
  · rw [if_pos h, Nat.testBit_or, hM _ (Nat.mod_lt _ (by omega))]
    have h1 : (ws.getD q 0).testBit (j % 64) = bit ws j := by unfold bit; rw [h]
    have h2 : 64 * q + j % 64 = j := by omega
    rw [h1, h2, hP j]
    by_cases c : f ≤ j ∧ j < p'
    · rw [if_pos c, decide_eq_true c, Bool.or_true]
    · rw [if_neg c, decide_eq_false c, Bool.or_false, if_neg (by omega)]
  · rw [if_neg h, hP j]
    by_cases c : f ≤ j ∧ j < p
    · rw [if_pos c, if_pos (by omega)]
    · rw [if_neg c, if_neg (fun c' => c ⟨c'.1, hpq j h c'.1 c'.2⟩)]
theorem all_step {ws : List Nat} {q f p : Nat} (B : Nat → Bool) (hq : q < ws.length) (hf : f ≤ 64 * q) (hp : p = 64 * q) (hP : ∀ j, bit ws j = if f ≤ j ∧ j < p then true else B j) :
    ∀ j, bit (ws.set q 18446744073709551615) j = if f ≤ j ∧ j < 64 * (q + 1) then true else B j := by
  intro j
  rw [bit_set _ _ _ _ hq]
  by_cases h : j / 64 = q
  · rw [if_pos h, all_bit, if_pos (by omega)]
    exact decide_eq_true (Nat.mod_lt _ (by omega))
  · rw [if_neg h, hP j]
    by_cases c : f ≤ j ∧ j < p
    · rw [if_pos c, if_pos (by omega)]
    · rw [if_neg c, if_neg (by omega)]
theorem hi_mask (f q : Nat) (hq : f / 64 = q) (k : Nat) (hk : k < 64) : (18446744073709551615 * 2 ^ (f % 64) % 18446744073709551616).testBit k = decide (f ≤ 64 * q + k ∧ 64 * q + k < 64 * (q + 1)) := by
  rw [hi_bit _ _ hk, decide_eq_decide]
  omega
theorem lo_mask (f t q : Nat) (ht : 0 < t) (hq : (t - 1) / 64 = q) (hf : f ≤ 64 * q) (k : Nat) (hk : k < 64) : (18446744073709551615 / 2 ^ ((64 - t % 64) % 64)).testBit k = decide (f ≤ 64 * q + k ∧ 64 * q + k < t) := by
  rw [lo_bit, decide_eq_decide]
  omega
theorem both_mask (f t q : Nat) (hft : f < t) (hq : f / 64 = q) (hq2 : (t - 1) / 64 = q) (k : Nat) (hk : k < 64) :
    ((18446744073709551615 * 2 ^ (f % 64) % 18446744073709551616) &&& (18446744073709551615 / 2 ^ ((64 - t % 64) % 64))).testBit k = decide (f ≤ 64 * q + k ∧ 64 * q + k < t) := by
  rw [Nat.testBit_and, hi_bit _ _ hk, lo_bit, ← Bool.decide_and, decide_eq_decide]
  omega
theorem range_rep {o : O} {b : List Bool} {ws : List Nat} {f t : Nat} (hr : o.rep b) (ht : t ≤ b.length) (h : ∀ j, bit ws j = if f ≤ j ∧ j < t then true else bit o.ws j) : (o.having ws).rep (putL b f t 1) := by
  refine ⟨by rw [putL_len]; exact hr.len, by rw [putL_len]; exact hr.fit, fun j => ?_⟩
  show bit ws j = _
  rw [h j, putL_bit, hr.bits j]
  by_cases hj : j < b.length
  · rw [if_pos hj]
    by_cases c : f ≤ j ∧ j < t
    · rw [if_pos c, if_pos c]; rfl
    · rw [if_neg c, if_neg c]
  · rw [if_neg hj, if_neg (by omega)]
    simp [Nat.le_of_not_lt hj]
theorem hi_eq (r : Nat) : IntKind.u64.wrap (18446744073709551615 * 2 ^ r) = ((18446744073709551615 * 2 ^ r % 18446744073709551616 : Nat) : Int) := by
  rw [IntKind.wrap_u64, Int.natCast_emod, Int.natCast_mul, Int.natCast_pow]
  rfl
theorem lo_eq (r : Nat) : (18446744073709551615 : Int) / 2 ^ r = ((18446744073709551615 / 2 ^ r : Nat) : Int) := by
  rw [Int.natCast_ediv, Int.natCast_pow]
  rfl
theorem having_upd {o : O} {b : List Bool} {ws : List Nat} {w w' : World} (h : (o.having ws).ok w') (hr : (o.having ws).rep b) (hO : Only o.foot w w') : Upd o b w w' := ⟨o.having ws, rfl, h, hr, hO, fun k hk => .inl hk⟩

/-- SetRange, FlipRange: the bitset behind a possible extension -/
theorem upd_trans {o o1 : O} {b : List Bool} {w w1 w2 : World} (hp : o1.p = o.p) (hO : Only o.foot w w1) (hfr : ∀ k, o1.foot k → o.foot k ∨ w.heap.size ≤ k) (h : Upd o1 b w1 w2) : Upd o b w w2 := by
  obtain ⟨o2, h1, h2, h3, h4, h5⟩ := h
  refine ⟨o2, h1.trans hp, h2, h3, hO.trans h4 (fun k hk hf => (hfr k hf).resolve_right (by omega)), fun k hk => ?_⟩
  rcases h5 k hk with h | h
  · exact hfr k h
  · exact .inr (Nat.le_trans hO.size h)
def Grown (o : O) (b : List Bool) (w w' : World) : Prop := ∃ o1 : O, o1.p = o.p ∧ o1.ok w' ∧ o1.rep b ∧ Only o.foot w w' ∧ ∀ k, o1.foot k → o.foot k ∨ w.heap.size ≤ k

set_option maxRecDepth 100000 in
set_option maxHeartbeats 6400000 in
/-- SetRange -/
theorem setRange_yes (o : O) (b : List Bool) (f t : Nat) (w : World) (h : o.ok w) (hr : o.rep b) (hft : f < t) (hbn : b.length ≤ 1048576) (ht2 : t ≤ 1048576) :
    Calls Try.prog 21 #[o.ptr, .int .u64 (f : Int), .int .u64 (t : Int)] w fun e w' => e = .returned o.ptr ∧ Upd o (putL (grow b t) f t 1) w w' := by
  have hft' : ¬ (t : Int) ≤ (f : Int) := by omega
  obtain ⟨bb0, hbb0, -⟩ := h.facts
  obtain ⟨s, hs⟩ : ∃ s, f / 64 = s := ⟨_, rfl⟩
  obtain ⟨e, he⟩ : ∃ e, (t - 1) / 64 = e := ⟨_, rfl⟩
  have es : (f : Int) / 64 = (s : Int) := by omega
  have ee : ((t : Int) - 1) / 64 = (e : Int) := by omega
  have hse : s ≤ e := by omega
  obtain ⟨FM, hFM⟩ : ∃ FM, 18446744073709551615 * 2 ^ (f % 64) % 18446744073709551616 = FM := ⟨_, rfl⟩
  obtain ⟨LM, hLM⟩ : ∃ LM, 18446744073709551615 / 2 ^ ((64 - t % 64) % 64) = LM := ⟨_, rfl⟩
  have m1 : Lt64 FM := by rw [← hFM]; exact lt64_hi _
  have m2 : Lt64 LM := by rw [← hLM]; exact lt64_lo _
  obtain ⟨r1, hr1⟩ : ∃ r1, f % 64 = r1 := ⟨_, rfl⟩
  obtain ⟨r2, hr2⟩ : ∃ r2, (64 - t % 64) % 64 = r2 := ⟨_, rfl⟩
  have HI : Hid (∀ wx, Calls Try.prog 39 #[.int .u64 (f : Int)] wx fun e w' => e = .returned (.int .u64 (r1 : Int)) ∧ wx = w') := Lib.hid (fun wx => by
    have := wordsIndex f (by omega) wx
    rw [hr1] at this
    exact this.mono fun e w' ⟨he, hw⟩ => ⟨he, hw.symm⟩)
  have HN : Hid (∀ wx, Calls Try.prog 39 #[.int .u64 (IntKind.u64.wrap (-(t : Int)))] wx fun e w' => e = .returned (.int .u64 (r2 : Int)) ∧ wx = w') := Lib.hid (fun wx => by
    have := neg_index t (by omega) ht2 wx
    rw [hr2] at this
    exact this.mono fun e w' ⟨he, hw⟩ => ⟨he, hw.symm⟩)
  have ef : IntKind.u64.wrap (18446744073709551615 * 2 ^ r1) = (FM : Int) := by rw [hi_eq, ← hr1, hFM]
  have el : (18446744073709551615 : Int) / 2 ^ r2 = (LM : Int) := by rw [lo_eq, ← hr2, hLM]
  have hr1b : r1 < 64 := by omega
  have hr2b : r2 < 64 := by omega
  have HH : Hid (∀ k, k < 64 → FM.testBit k = decide (f ≤ 64 * s + k ∧ 64 * s + k < 64 * (s + 1))) := Lib.hid (fun k hk => by rw [← hFM]; exact hi_mask f s hs k hk)
  have HLo : Hid (f ≤ 64 * e → ∀ k, k < 64 → LM.testBit k = decide (f ≤ 64 * e + k ∧ 64 * e + k < t)) := Lib.hid (fun hf k hk => by rw [← hLM]; exact lo_mask f t e (by omega) he hf k hk)
  have HB : Hid (s = e → ∀ k, k < 64 → (FM &&& LM).testBit k = decide (f ≤ 64 * s + k ∧ 64 * s + k < t)) := Lib.hid (fun hq k hk => by rw [← hFM, ← hLM]; exact both_mask f t s (by omega) hs (by omega) k hk)
  have hs1 : 64 * s ≤ f := by omega
  have hs2 : f < 64 * (s + 1) := by omega
  have he1 : 64 * e < t := by omega
  have he2 : t ≤ 64 * (e + 1) := by omega
  obtain ⟨c0, c1, f0, f1⟩ := h.cells
  rw [hr.len] at c0
  have HG0 : Hid (t ≤ b.length → Grown o (grow b t) w w) := Lib.hid (fun ht => ⟨o, rfl, h, by rw [grow_of_le ht]; exact hr, Only.refl _ _, fun k hk => .inl hk⟩)
  have HEX : Hid (b.length < t → Calls Try.prog 38 #[.pointer (some ⟨o.p, 0, none⟩), .int .u64 ((t : Int) - 1)] w fun e w' => e = .returned (.tuple #[]) ∧ Grown o (grow b t) w w') := Lib.hid (fun ht => by
    have := extendSet o b (t - 1) w h hr (by omega) (by omega)
    rw [show ((t - 1 : Nat) : Int) = (t : Int) - 1 by omega] at this
    refine this.mono (fun e w' ⟨he, o1, h1, h2, h3, h4, h5, h6⟩ => ⟨he, o1, h1, h2, ?_, h5, h6⟩)
    rw [show t - 1 + 1 = t by omega] at h3
    exact h3)
  clear hFM hLM hr1 hr2 hs he hr
  unfold O.ptr
  go_enter Try.func21, Try.ntmps21
  go_upto_if 22 with (fail)
  go_cut [26] (fun _ wx => Grown o (grow b t) w wx)
  case first =>
    by_cases ht : t ≤ b.length
    · have hnext : ¬ (b.length : Int) ≤ (t : Int) - 1 := by omega
      have HG := Lib.hid (HG0.out ht)
      go_wp2_with fail
      go_meet
      case rel => exact HG.out
    · have hnext : (b.length : Int) ≤ (t : Int) - 1 := by omega
      have HE := Lib.hid (HEX.out (by omega))
      go_wp2_with fail
      refine HE.out.mono ?_
      rintro e2 w2 ⟨rfl, hg⟩
      have HG := Lib.hid hg
      clear hg
      go_wp2_with fail
      go_meet
      case rel => exact HG.out
  case rest =>
    obtain ⟨o1, hp1, hok1, hr, hO1, hfr1⟩ := hcut
    have HUP : Hid (∀ w', Upd o1 (putL (grow b t) f t 1) wc w' → Upd o (putL (grow b t) f t 1) w w') := Lib.hid (fun w' hu => upd_trans hp1 hO1 hfr1 hu)
    obtain ⟨bb, hbb, -⟩ := hok1.facts
    have H : Hid ((o1.having o1.ws).ok wc) := Lib.hid hok1
    have hgl : t ≤ (grow b t).length := by rw [grow_len]; omega
    clear c0 c1 f0 f1 HG0 HEX
    obtain ⟨c0, c1, f0, f1, hcs, hfr, hp, hbl, hne⟩ := having_facts H.out hbb
    rw [hp1] at c0 c1 f0 f1
    have hroom := hr.room
    have hem : e < o1.m := by omega
    have hlen := having_len H.out
    have HR := Lib.hid hr
    have HBB := Lib.hid hbb
    have HL := Lib.hid hlen
    have HP1 := Lib.hid hp1
    have HB0 : Hid (∀ j, bit o1.ws j = if f ≤ j ∧ j < f then true else bit o1.ws j) := Lib.hid (fun j => by rw [if_neg (by omega)])
    have HW : Hid (∀ i, Lt64 (o1.ws.getD i 0)) := Lib.hid (fun i => hok1.fits.at i)
    clear hlen hr hbb hp1 hok1 hO1 hfr1 hroom
    by_cases hq : s = e
    · subst hq
      have cs := hcs s hem
      have fs := hfr s
      have hsm : (s : Int) < (o1.m : Int) := by omega
      have hHB := Lib.hid (HB.out rfl)
      have HWs := Lib.hid (HW.out s)
      have HX : Hid (∀ x : Nat, x = o1.ws.getD s 0 → Upd o1 (putL (grow b t) f t 1) wc (wc.setCell ⟨bb, s, none⟩ (.int .u64 ((x ||| (FM &&& LM) : Nat) : Int)))) := Lib.hid (fun x hx => by
        subst hx
        exact having_upd (having_store H.out HBB.out hem (lt64_or HWs.out (lt64_and m1))) (range_rep HR.out hgl (or_step _ (by rw [HL.out]; exact hem) hHB.out HB0.out (by omega) (fun j h1 h2 h3 => by omega))) ((Only.refl o1.foot wc).setCell _ _ (fun _ => .inr (by rw [HBB.out]; rfl))))
      have ea : bits .and .u64 (FM : Int) (LM : Int) = ((FM &&& LM : Nat) : Int) := and_nat m1 m2
      generalize hx : o1.ws.getD s 0 = x at *
      have eo : bits .or .u64 (x : Int) ((FM &&& LM : Nat) : Int) = ((x ||| (FM &&& LM) : Nat) : Int) := or_nat HWs.out (lt64_and m1)
      have HXX := Lib.hid (HX.out x rfl)
      clear hcs hfr hx HX
      go_wp2_with (first | (go_at_call 39; (with_reducible refine (HI.out _).mono ?_); rintro e w1 ⟨rfl, rfl⟩) | (go_at_call 39; (with_reducible refine (HN.out _).mono ?_); rintro e w1 ⟨rfl, rfl⟩))
      go_ret
      exact ⟨rfl, HUP.out _ HXX.out⟩
    · have hse' : s < e := by omega
      have hq' : ((s : Int) == (e : Int)) = false := by rw [beq_eq_false_iff_ne]; omega
      have cs := hcs s (by omega)
      have fs := hfr s
      have hsm : (s : Int) < (o1.m : Int) := by omega
      have HWs := Lib.hid (HW.out s)
      have HX : Hid (∀ x : Nat, x = o1.ws.getD s 0 → (o1.having (o1.ws.set s (x ||| FM))).ok (wc.setCell ⟨bb, s, none⟩ (.int .u64 ((x ||| FM : Nat) : Int))) ∧ (∀ j, bit (o1.ws.set s (x ||| FM)) j = if f ≤ j ∧ j < 64 * (s + 1) then true else bit o1.ws j)) := Lib.hid (fun x hx => by
        subst hx
        exact ⟨having_store H.out HBB.out (by omega) (lt64_or HWs.out m1), or_step _ (by rw [HL.out]; omega) HH.out HB0.out (by omega) (fun j h1 h2 h3 => by omega)⟩)
      have HO1 : Hid (∀ v, Only o1.foot wc (wc.setCell ⟨bb, s, none⟩ v)) := Lib.hid (fun v => (Only.refl o1.foot wc).setCell _ _ (fun _ => .inr (by rw [HBB.out]; rfl)))
      generalize hx : o1.ws.getD s 0 = x at *
      have eo : bits .or .u64 (x : Int) (FM : Int) = ((x ||| FM : Nat) : Int) := or_nat HWs.out m1
      have HXX := Lib.hid (HX.out x rfl)
      clear hcs hfr hx HX
      go_wp2_with (first | (go_at_call 39; (with_reducible refine (HI.out _).mono ?_); rintro e w1 ⟨rfl, rfl⟩) | (go_at_call 39; (with_reducible refine (HN.out _).mono ?_); rintro e w1 ⟨rfl, rfl⟩))
      go_loopw [11] (fun i wr => ∃ (k : Nat) (ws : List Nat), s + 1 ≤ k ∧ k ≤ e ∧ i = .int .u64 (k : Int) ∧ Hid ((o1.having ws).ok wr ∧ (∀ j, bit ws j = if f ≤ j ∧ j < 64 * k then true else bit o1.ws j) ∧ Only o1.foot wc wr)) (fun i _ => e - (intOf i).toNat)
      case atStart => exact ⟨s + 1, _, Nat.le_refl _, hse', by go_num, Lib.hid ⟨HXX.out.1, HXX.out.2, HO1.out _⟩⟩
      case round =>
        obtain ⟨k, ws, hk1, hk2, rfl, hrel⟩ := hrel
        clear HXX HO1 cs fs c0 c1 f0 f1
        obtain ⟨c0, c1, f0, f1, hcs, hfr, hp', hbl', -⟩ := having_facts hrel.out.1 HBB.out
        rw [HP1.out] at c0 c1 f0 f1
        have HL2 := Lib.hid (having_len hrel.out.1)
        by_cases hke : k < e
        · have hke' : (k : Int) < (e : Int) := by omega
          have hkm : (k : Int) < (o1.m : Int) := by omega
          have ck := hcs k (by omega)
          have fk := hfr k
          generalize ws.getD k 0 = y at *
          have HN2 : Hid ((o1.having (ws.set k 18446744073709551615)).ok (wr.setCell ⟨bb, k, none⟩ (.int .u64 18446744073709551615)) ∧ (∀ j, bit (ws.set k 18446744073709551615) j = if f ≤ j ∧ j < 64 * (k + 1) then true else bit o1.ws j) ∧ Only o1.foot wc (wr.setCell ⟨bb, k, none⟩ (.int .u64 18446744073709551615))) := Lib.hid
            ⟨having_store hrel.out.1 HBB.out (by omega) lt64_all, all_step _ (by rw [HL2.out]; omega) (by omega) rfl hrel.out.2.1, hrel.out.2.2.setCell _ _ (fun _ => .inr (by rw [HBB.out]; rfl))⟩
          clear hcs hfr
          go_wp2_with fail
          go_roundw
          case rel => exact ⟨k + 1, _, by omega, by omega, by go_num, Lib.hid HN2.out⟩
          case measure => simp [intOf]; omega
        · obtain rfl : k = e := by omega
          have hge : ¬ (k : Int) < (k : Int) := by omega
          have hkm : (k : Int) < (o1.m : Int) := by omega
          have ck := hcs k (by omega)
          have fk := hfr k
          have HWy : Hid (Lt64 (ws.getD k 0)) := Lib.hid (hrel.out.1.fits.at k)
          have HX : Hid (∀ x : Nat, x = ws.getD k 0 → Upd o1 (putL (grow b t) f t 1) wc (wr.setCell ⟨bb, k, none⟩ (.int .u64 ((x ||| LM : Nat) : Int)))) := Lib.hid (fun x hx => by
            subst hx
            exact having_upd (having_store hrel.out.1 HBB.out hem (lt64_or HWy.out m2)) (range_rep HR.out hgl (or_step _ (by rw [HL2.out]; exact hem) (HLo.out (by omega)) hrel.out.2.1 (by omega) (fun j h1 h2 h3 => by omega))) (hrel.out.2.2.setCell _ _ (fun _ => .inr (by rw [HBB.out]; rfl))))
          generalize ws.getD k 0 = y at *
          have eo2 : bits .or .u64 (y : Int) (LM : Int) = ((y ||| LM : Nat) : Int) := or_nat HWy.out m2
          have HXX := Lib.hid (HX.out y rfl)
          clear hcs hfr HX
          go_wp2_with fail
          go_ret
          exact ⟨rfl, HUP.out _ HXX.out⟩
end Go.Proofs.Ytgndpckcdageiaa.bs

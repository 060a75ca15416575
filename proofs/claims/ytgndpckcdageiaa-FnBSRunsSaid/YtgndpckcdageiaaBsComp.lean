/-
  Bitsets: Complement, SetAll.
-/
import Derived.Test.YtgndpckcdageiaaBsInter
namespace Go.Proofs.Ytgndpckcdageiaa.bs
open Go.RowKit Go.Proofs.Ytgndpckcdageiaa.base Go.Proofs.Ytgndpckcdageiaa.heap Go.Proofs.Ytgndpckcdageiaa.bit
set_option linter.unusedVariables false

def notL (b : List Bool) : List Bool := b.map (fun x => !x)
theorem notL_len (b : List Bool) : (notL b).length = b.length := by simp [notL]
theorem notL_get (b : List Bool) (j : Nat) : (notL b).getD j false = (decide (j < b.length) && !b.getD j false) := by
  unfold notL
  by_cases h : j < b.length
  · simp [h]
  · simp [h]

set_option maxRecDepth 100000 in
set_option maxHeartbeats 3200000 in
theorem complement (o1 : O) (b : List Bool) (w : World) (h1 : o1.ok w) (r1 : o1.rep b) (t1 : o1.tight b) (hn : b.length ≤ 1048000) :
    Calls Try.prog 32 #[o1.ptr] w (FObj w (notL b)) := by
  have HNEW := Lib.hid (new b.length w (by omega))
  have H1 := Lib.hid h1
  have R1 := Lib.hid r1
  obtain ⟨c0, c1, f0, f1⟩ := h1.cells
  rw [r1.len] at c0
  have HT := Lib.hid t1
  have hm1 : o1.m ≤ 20000 := by unfold O.tight at t1; omega
  clear h1 r1 t1
  unfold O.ptr at *
  go_enter Try.func32, Try.ntmps32
  go_wp2_with (go_at_call 43; (with_reducible refine (notNil2 _ _).mono ?_); rintro e w1 ⟨rfl, rfl⟩)
  refine HNEW.out.mono ?_
  rintro e w3 ⟨o, rfl, hok, hn0, hm, hws, hcap, hO1, hfr⟩
  try unfold O.ptr
  obtain ⟨ob, hob, -⟩ := hok.facts
  obtain ⟨ab, hab, -⟩ := H1.out.facts
  have HAB := Lib.hid hab
  have HOB := Lib.hid hob
  have HO1 := Lib.hid hO1
  have HFR := Lib.hid hfr
  have HOK : Hid ((o.having o.ws).ok w3) := Lib.hid hok
  have hom : o1.m ≤ o.m := by rw [hm]; exact Nat.le_of_eq HT.out
  have hom2 : o.m ≤ o1.m := by rw [hm]; exact Nat.le_of_eq HT.out.symm
  have HOM := Lib.hid hm
  have HON := Lib.hid hn0
  obtain ⟨a0, a1, -⟩ := having_facts (o := o1) (ws := o1.ws) (H1.out.keep hO1 (fun _ _ => id)) hab
  clear hab hob hO1 hfr hok hm hn0 hws hcap c0 c1 f0 f1
  go_wp2_with fail
  go_loopw [3, 4, 17] (fun _ _ i wr => ∃ (k : Nat) (ws : List Nat), k ≤ o1.m ∧ i = .int .i64 (k : Int) ∧ Hid ((o.having ws).ok wr ∧ (∀ j, j < 64 * k → bit ws j = !bit o1.ws j) ∧ Only o.foot w3 wr)) (fun _ _ i _ => o1.m - (intOf i).toNat)
  case atStart => exact ⟨0, o.ws, Nat.zero_le _, rfl, Lib.hid ⟨HOK.out, fun j hj => by omega, Only.refl _ _⟩⟩
  case round =>
    obtain ⟨k, ws, hk, rfl, hrel⟩ := hrel
    clear a0 a1
    have HSW : Hid (Same w wr) := Lib.hid (Only.trans HO1.out hrel.out.2.2 (fun j hj hh => absurd (HFR.out j hh) (by omega)))
    have HL2 := Lib.hid (having_len hrel.out.1)
    obtain ⟨a0, a1, af0, af1, acs, afr, ap, abl, ane⟩ := having_facts (o := o1) (ws := o1.ws) (H1.out.keep HSW.out (fun _ _ => id)) HAB.out
    obtain ⟨c0, c1', cf0, cf1, ccs, cfr, cp, cbl, cne⟩ := having_facts hrel.out.1 HOB.out
    by_cases hlt : k < o1.m
    · have hlt' : (k : Int) < (o1.m : Int) := by omega
      have ak := acs k hlt
      have ck := ccs k (by omega)
      have fk := cfr k
      have hko : (k : Int) < (o.m : Int) := by omega
      have HWa : Hid (Lt64 (o1.ws.getD k 0)) := Lib.hid (H1.out.fits.at k)
      have HST : Hid (∀ x : Nat, x = o1.ws.getD k 0 → (o.having (ws.set k (inv x))).ok (wr.setCell ⟨ob, k, none⟩ (.int .u64 (inv x : Int))) ∧ (∀ j, j < 64 * (k + 1) → bit (ws.set k (inv x)) j = !bit o1.ws j) ∧ Only o.foot w3 (wr.setCell ⟨ob, k, none⟩ (.int .u64 (inv x : Int)))) := Lib.hid (fun x hx => by
        subst hx
        refine ⟨having_store hrel.out.1 HOB.out (by omega) (lt64_inv _), fun j hj => ?_, hrel.out.2.2.setCell _ _ (fun _ => .inr (by rw [HOB.out]; rfl))⟩
        rw [bit_set _ _ _ _ (by rw [HL2.out]; show k < o.m; omega)]
        by_cases hjk : j / 64 = k
        · rw [if_pos hjk, inv_bit HWa.out (Nat.mod_lt _ (by omega))]
          unfold bit
          rw [hjk]
        · rw [if_neg hjk]
          exact hrel.out.2.1 j (by omega))
      clear acs afr ccs cfr
      generalize o1.ws.getD k 0 = x at *
      have e1 : bits .xor .u64 IntKind.u64.max (x : Int) = (inv x : Int) := xor_max HWa.out
      have e2 : bits .xor .u64 (if IntKind.u64.signed = true then -1 else IntKind.u64.max) (x : Int) = (inv x : Int) := xor_max HWa.out
      have HN := Lib.hid (HST.out x rfl)
      generalize inv x = X at *
      generalize ws.getD k 0 = z at *
      clear HST
      go_wp2
      go_roundw
      case rel => exact ⟨k + 1, _, by omega, by go_num, Lib.hid HN.out⟩
      case measure => simp [intOf]; omega
    · obtain rfl : k = o1.m := by omega
      have hge : ¬ (o1.m : Int) < (o1.m : Int) := by omega
      have HC := Lib.hid (cleanLastWord (o.having ws) wr hrel.out.1 (by show o.m = (o.n + 63) / 64; rw [HON.out]; exact HOM.out) (by show o.n ≤ 1048576; rw [HON.out]; omega))
      unfold O.ptr at HC
      clear acs afr ccs cfr
      go_wp2_with fail
      refine HC.out.mono ?_
      intro e w4 hcl
      obtain ⟨rfl, ws2, hok2, hO2, hb2⟩ := hcl
      have HF : Hid (FObj w (notL b) (.returned (.pointer (some ⟨o.p, 0, none⟩))) w4) := Lib.hid (by
        refine fresh_fin (b0 := b) (ws := ws2) hok2 ⟨by rw [notL_len]; exact HON.out, by rw [notL_len]; exact HOM.out, fun j => ?_⟩ (by rw [notL_len]; exact HOM.out) HO1.out (Only.trans hrel.out.2.2 hO2 (fun _ _ h => h)) HFR.out
        show bit ws2 j = _
        rw [hb2 j, notL_get]
        have hon : (o.having ws).n = b.length := HON.out
        rw [hon]
        by_cases hj : j < b.length
        · rw [decide_eq_true hj, Bool.true_and, Bool.true_and]
          have := R1.out.room
          have h3 := hrel.out.2.1 j (by omega)
          rw [← R1.out.bits]
          exact h3
        · rw [decide_eq_false hj, Bool.false_and, Bool.false_and])
      clear hok2 hO2 hb2
      go_wp2_with fail
      go_ret
      exact HF.out

theorem ones_get (n j : Nat) : (List.replicate n true).getD j false = decide (j < n) := by
  simp only [List.getD_eq_getElem?_getD, List.getElem?_replicate]
  by_cases h : j < n
  · simp [h]
  · simp [h]

set_option maxRecDepth 100000 in
set_option maxHeartbeats 3200000 in
theorem setAll (o : O) (b : List Bool) (w : World) (h1 : o.ok w) (r1 : o.rep b) (t1 : o.tight b) (hn : b.length ≤ 1048000) :
    Calls Try.prog 24 #[o.ptr] w fun e w' => e = .returned o.ptr ∧ Upd o (List.replicate b.length true) w w' := by
  obtain ⟨ob, hob, -⟩ := h1.facts
  have HOK : Hid ((o.having o.ws).ok w) := Lib.hid h1
  obtain ⟨c0, c1, f0, f1, -⟩ := having_facts HOK.out hob
  have R1 := Lib.hid r1
  have HOB := Lib.hid hob
  have HON := Lib.hid r1.len
  have HOM := Lib.hid t1
  have hm1 : o.m ≤ 20000 := by unfold O.tight at t1; omega
  have hcmp : ∀ wx, (binOp .neq 56 (.slice (some ⟨ob, 0, none⟩) o.m o.cap) (.slice none 0 0)).run Try.prog wx = .ok (.bool true) wx := fun wx => run_neq_slice_nil_any _ _ _ _ _ _ _ _ Try.underlying56
  clear h1 r1 t1 hob
  unfold O.ptr at *
  go_enter Try.func24, Try.ntmps24
  go_wp2_with fail
  go_loopw [3, 18] (fun _ i wr => ∃ (k : Nat) (ws : List Nat), k ≤ o.m ∧ i = .int .i64 (k : Int) ∧ Hid ((o.having ws).ok wr ∧ (∀ j, j < 64 * k → bit ws j = true) ∧ Only o.foot w wr)) (fun _ i _ => o.m - (intOf i).toNat)
  case atStart => exact ⟨0, o.ws, Nat.zero_le _, rfl, Lib.hid ⟨HOK.out, fun j hj => by omega, Only.refl _ _⟩⟩
  case round =>
    obtain ⟨k, ws, hk, rfl, hrel⟩ := hrel
    clear c0 c1 f0 f1
    have HL2 := Lib.hid (having_len hrel.out.1)
    obtain ⟨c0, c1', cf0, cf1, ccs, cfr, cp, cbl, cne⟩ := having_facts hrel.out.1 HOB.out
    by_cases hlt : k < o.m
    · have hlt' : (k : Int) < (o.m : Int) := by omega
      have ck := ccs k (by omega)
      have fk := cfr k
      have HN : Hid ((o.having (ws.set k 18446744073709551615)).ok (wr.setCell ⟨ob, k, none⟩ (.int .u64 18446744073709551615)) ∧ (∀ j, j < 64 * (k + 1) → bit (ws.set k 18446744073709551615) j = true) ∧ Only o.foot w (wr.setCell ⟨ob, k, none⟩ (.int .u64 18446744073709551615))) := Lib.hid (by
        refine ⟨having_store hrel.out.1 HOB.out hlt lt64_all, fun j hj => ?_, hrel.out.2.2.setCell _ _ (fun _ => .inr (by rw [HOB.out]; rfl))⟩
        rw [bit_set _ _ _ _ (by rw [HL2.out]; exact hlt)]
        by_cases hjk : j / 64 = k
        · rw [if_pos hjk, all_bit]; exact decide_eq_true (Nat.mod_lt _ (by omega))
        · rw [if_neg hjk]
          exact hrel.out.2.1 j (by omega))
      clear ccs cfr
      generalize ws.getD k 0 = z at *
      go_wp2
      go_roundw
      case rel => exact ⟨k + 1, _, by omega, by go_num, Lib.hid HN.out⟩
      case measure => simp [intOf]; omega
    · obtain rfl : k = o.m := by omega
      have hge : ¬ (o.m : Int) < (o.m : Int) := by omega
      have HC := Lib.hid (cleanLastWord (o.having ws) wr hrel.out.1 (by show o.m = (o.n + 63) / 64; rw [HON.out]; exact HOM.out) (by show o.n ≤ 1048576; rw [HON.out]; omega))
      unfold O.ptr at HC
      clear ccs cfr
      go_wp2_with fail
      refine HC.out.mono ?_
      intro e w4 hcl
      obtain ⟨rfl, ws2, hok2, hO2, hb2⟩ := hcl
      have HF : Hid (Upd o (List.replicate b.length true) w w4) := Lib.hid (by
        refine having_upd (ws := ws2) hok2 ⟨by rw [List.length_replicate]; exact HON.out, by rw [List.length_replicate]; exact R1.out.fit, fun j => ?_⟩ (Only.trans hrel.out.2.2 hO2 (fun _ _ h => h))
        show bit ws2 j = _
        rw [hb2 j, ones_get]
        have hon : (o.having ws).n = b.length := HON.out
        rw [hon]
        by_cases hj : j < b.length
        · have := R1.out.room
          have h3 := hrel.out.2.1 j (by omega)
          rw [decide_eq_true hj, Bool.true_and]
          exact h3
        · rw [decide_eq_false hj, Bool.false_and])
      clear hok2 hO2 hb2
      go_wp2_with fail
      go_ret
      exact ⟨rfl, HF.out⟩

theorem twoL_comm (f : Bool → Bool → Bool) (hf : ∀ x y, f x y = f y x) (a b : List Bool) (n : Nat) : twoL f a b n = twoL f b a n := by
  unfold twoL
  exact List.map_congr_left (fun i _ => hf _ _)
end Go.Proofs.Ytgndpckcdageiaa.bs

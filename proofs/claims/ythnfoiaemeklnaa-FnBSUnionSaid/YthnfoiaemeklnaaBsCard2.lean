/-
  Bitsets: DifferenceCardinality.
-/
import Derived.Test.YthnfoiaemeklnaaBsCard
import Derived.Deep.QuietTactic
namespace Go.Proofs.Ythnfoiaemeklnaa.bs
open Go.RowKit Go.Proofs.Ythnfoiaemeklnaa.base Go.Proofs.Ythnfoiaemeklnaa.heap Go.Proofs.Ythnfoiaemeklnaa.bit
set_option linter.unusedVariables false

theorem card_split (op : Nat → Nat → Nat) (l l2 r : List Nat) (L n : Nat) : countW (zipW op l l2 L ++ r) (64 * (L + n)) = countW (zipW op l l2 L) (64 * L) + countW r (64 * n) := by
  rw [countW_add, List.drop_append_of_le_length (by rw [zipW_len]; exact Nat.le_refl _), List.drop_of_length_le (by rw [zipW_len]; exact Nat.le_refl _), List.nil_append]
  congr 1
  refine countW_congr _ _ _ fun i hi => ?_
  simp only [List.getD_eq_getElem?_getD]
  rw [List.getElem?_append_left (by rw [zipW_len]; exact hi)]
theorem bit_cat (op : Nat → Nat → Nat) (f : Bool → Bool → Bool) (l l2 r : List Nat) (L j : Nat) (h : ∀ k c, k < L → c < 64 → (op (l.getD k 0) (l2.getD k 0)).testBit c = f ((l.getD k 0).testBit c) ((l2.getD k 0).testBit c)) :
    bit (zipW op l l2 L ++ r.drop L) j = if j < 64 * L then f (bit l j) (bit l2 j) else bit r j := by
  unfold bit
  by_cases c : j < 64 * L
  · rw [if_pos c, ← h _ _ (by omega) (Nat.mod_lt _ (by omega)), ← zipW_get op l l2 L _ (by omega)]
    congr 1
    simp only [List.getD_eq_getElem?_getD]
    rw [List.getElem?_append_left (by rw [zipW_len]; omega)]
  · rw [if_neg c]
    congr 1
    simp only [List.getD_eq_getElem?_getD]
    rw [List.getElem?_append_right (by rw [zipW_len]; omega), zipW_len, List.getElem?_drop, show L + (j / 64 - L) = j / 64 by omega]
theorem card_diff {o1 o2 : O} {b b2 : List Bool} {w : World} (h1 : o1.ok w) (h2 : o2.ok w) (r1 : o1.rep b) (r2 : o2.rep b2) {L : Nat} (hL : L ≤ o1.m) (hLl : b.length ≤ 64 * L ∨ b2.length ≤ 64 * L) :
    countW (zipW anot o1.ws o2.ws L) (64 * L) + countW (o1.ws.drop L) (64 * (o1.m - L)) = (ones (twoL (fun x y => x && !y) b b2 b.length)).length := by
  rw [← card_split]
  refine countW_all (fun j => ?_) (by rw [twoL_len]; have := r1.room; omega)
  rw [bit_cat anot (fun x y => x && !y) _ _ _ _ _ (fun k c _ hc => anot_bit (h1.fits.at k) (h2.fits.at k) c hc), twoL_get, r1.bits, r2.bits]
  by_cases c : j < b.length
  · rw [decide_eq_true c, Bool.true_and]
    by_cases c2 : j < 64 * L
    · rw [if_pos c2]
    · rw [if_neg c2]
      have : b2.getD j false = false := by simp [show b2.length ≤ j by omega]
      rw [this]; simp
  · have : b.getD j false = false := by simp [show b.length ≤ j by omega]
    rw [decide_eq_false c, this]; simp

theorem Row.tail {o : O} {w : World} {x L : Nat} (h : o.ok w) (ha : o.a = some ⟨x, 0, none⟩) (hL : L ≤ o.m) : Row w x L (o.ws.drop L) (o.m - L) := by
  obtain ⟨b, hb, -, -, hc, -⟩ := h.row
  rw [ha] at hb
  cases hb
  refine ⟨fun i hi => ?_, fun i hi => h.fits i (List.mem_of_mem_drop hi)⟩
  rw [hc (L + i) (by omega)]
  simp [List.getD_eq_getElem?_getD]
theorem Row.head {o : O} {w : World} {x L : Nat} (h : o.ok w) (ha : o.a = some ⟨x, 0, none⟩) (hL : L ≤ o.m) : Row w x 0 o.ws L := by
  obtain ⟨b, hb, -, -, hc, -⟩ := h.row
  rw [ha] at hb
  cases hb
  exact ⟨fun i hi => by rw [Nat.zero_add]; exact hc i (by omega), h.fits⟩

set_option maxRecDepth 100000 in
set_option maxHeartbeats 3200000 in
theorem diffCard (o1 o2 : O) (b b2 : List Bool) (w : World) (h1 : o1.ok w) (h2 : o2.ok w) (r1 : o1.rep b) (r2 : o2.rep b2) (t1 : o1.m = (b.length + 63) / 64) (hn : b.length ≤ 1048000) (hn2 : b2.length ≤ 1048000) :
    Calls Try.prog 66 #[o1.ptr, o2.ptr] w (FV w (.int .u64 ((ones (twoL (fun x y => x && !y) b b2 b.length)).length : Int))) := by
  obtain ⟨c1, hc1⟩ : ∃ c1, (b.length + 63) / 64 = c1 := ⟨_, rfl⟩
  obtain ⟨c2, hc2⟩ : ∃ c2, (b2.length + 63) / 64 = c2 := ⟨_, rfl⟩
  have HW1 : Hid (∀ wx, Same w wx → Calls Try.prog 71 #[.pointer (some ⟨o1.p, 0, none⟩)] wx fun e w' => e = .returned (.int .i64 (c1 : Int)) ∧ wx = w') := Lib.hid (fun wx hx => by
    have := wordCount o1 wx (h1.keep hx (fun _ _ => id)) (by rw [r1.len]; omega)
    rw [r1.len, hc1] at this
    exact this.mono fun e w' ⟨he, hw⟩ => ⟨he, hw.symm⟩)
  have HW2 : Hid (∀ wx, Same w wx → Calls Try.prog 71 #[.pointer (some ⟨o2.p, 0, none⟩)] wx fun e w' => e = .returned (.int .i64 (c2 : Int)) ∧ wx = w') := Lib.hid (fun wx hx => by
    have := wordCount o2 wx (h2.keep hx (fun _ _ => id)) (by rw [r2.len]; omega)
    rw [r2.len, hc2] at this
    exact this.mono fun e w' ⟨he, hw⟩ => ⟨he, hw.symm⟩)
  have hm1 : c1 ≤ o1.m := by omega
  have hm2 : c2 ≤ o2.m := by have := r2.room; omega
  have hcb1 : c1 ≤ 20000 := by omega
  have hmb : o1.m ≤ 20000 := by omega
  obtain ⟨L, hL⟩ : ∃ L, min c1 c2 = L := ⟨_, rfl⟩
  have hL1 : L ≤ c1 := by omega
  have hL2 : L ≤ c2 := by omega
  have hLl : b.length ≤ 64 * L ∨ b2.length ≤ 64 * L := by omega
  have hLu : L ≤ 20000 := by omega
  have hfin := card_diff h1 h2 r1 r2 (L := L) (by omega) hLl
  have hdle : (ones (twoL (fun x y => x && !y) b b2 b.length)).length ≤ 1048000 := Nat.le_trans (ones_le _) (by rw [twoL_len]; exact hn)
  generalize (ones (twoL (fun x y => x && !y) b b2 b.length)).length = d at *
  obtain ⟨ab, hab, -⟩ := h1.facts
  obtain ⟨bb, hbb, -⟩ := h2.facts
  obtain ⟨s0, s1, sf0, sf1, -, -, sp, sbl, sne⟩ := having_facts (o := o1) (ws := o1.ws) h1 hab
  obtain ⟨t0, t1', tf0, tf1, -, -, tp, tbl, tne⟩ := having_facts (o := o2) (ws := o2.ws) h2 hbb
  have hcap1 := h1.own.bound
  have hcap2 := h2.own.bound
  have HP : Hid (0 < L → ∀ wx : World, wx.heap = w.heap → Calls Try.prog 81 #[.slice (some ⟨ab, 0, none⟩) L o1.cap, .slice (some ⟨bb, 0, none⟩) L o2.cap] wx fun e w' => e = .returned (.int .u64 (countW (zipW anot o1.ws o2.ws L) (64 * L) : Int)) ∧ ∃ m, w' = wx.drewN m) := Lib.hid (fun h0 wx hh =>
    popcntMask ab bb 0 0 o1.cap o2.cap L o1.ws o2.ws wx (Row.head (h1.of_heap hh) hab (by omega)) (Row.head (h2.of_heap hh) hbb (by omega)) h0 (by omega))
  have HQ : Hid (∀ t : Nat, Calls Try.prog 73 #[.slice (some ⟨ab, L, none⟩) (o1.m - L) (o1.cap - L)] (w.drewN t) fun e w' => e = .returned (.int .u64 (countW (o1.ws.drop L) (64 * (o1.m - L)) : Int)) ∧ ∃ m, w' = (w.drewN t).drewN m) := Lib.hid (fun t =>
    popcnt ab L (o1.cap - L) (o1.m - L) (o1.ws.drop L) (w.drewN t) (Row.tail (h1.of_heap rfl) hab (by omega)) (by omega))
  have HQ2 : Hid (o1.cap = L → ∀ t : Nat, Calls Try.prog 73 #[.slice (some ⟨ab, 0, none⟩) (o1.m - L) 0] (w.drewN t) fun e w' => e = .returned (.int .u64 (countW (o1.ws.drop L) (64 * (o1.m - L)) : Int)) ∧ ∃ m, w' = (w.drewN t).drewN m) := Lib.hid (fun hc t => by
    have : o1.m - L = 0 := by have := hcap1.1; omega
    rw [this]
    exact popcnt_none _ _ _)
  have HQW : Hid (Calls Try.prog 73 #[.slice (some ⟨ab, L, none⟩) (o1.m - L) (o1.cap - L)] w fun e w' => e = .returned (.int .u64 (countW (o1.ws.drop L) (64 * (o1.m - L)) : Int)) ∧ ∃ m, w' = w.drewN m) := Lib.hid (
    popcnt ab L (o1.cap - L) (o1.m - L) (o1.ws.drop L) w (Row.tail h1 hab (by omega)) (by omega))
  have HQ2W : Hid (o1.cap = L → Calls Try.prog 73 #[.slice (some ⟨ab, 0, none⟩) (o1.m - L) 0] w fun e w' => e = .returned (.int .u64 (countW (o1.ws.drop L) (64 * (o1.m - L)) : Int)) ∧ ∃ m, w' = w.drewN m) := Lib.hid (fun hc => by
    have : o1.m - L = 0 := by have := hcap1.1; omega
    rw [this]
    exact popcnt_none _ _ _)
  have hz : L = 0 → countW (zipW anot o1.ws o2.ws L) (64 * L) = 0 := fun h => by subst h; rfl
  generalize countW (zipW anot o1.ws o2.ws L) (64 * L) = y1 at *
  generalize countW (o1.ws.drop L) (64 * (o1.m - L)) = y2 at *
  have HZ := Lib.hid hz
  obtain ⟨hcap1, hcap1'⟩ := hcap1
  obtain ⟨hcap2, hcap2'⟩ := hcap2
  have hr1 : IntKind.u64.wrap ((y1 : Int) + (y2 : Int)) = (y1 : Int) + (y2 : Int) := by rw [IntKind.wrap_u64]; omega
  have hr2 : IntKind.u64.wrap (y1 : Int) = (y1 : Int) := by rw [IntKind.wrap_u64]; omega
  have hr3 : IntKind.u64.wrap (y2 : Int) = (y2 : Int) := by rw [IntKind.wrap_u64]; omega
  have v1 : (L : Int) ≤ (o1.cap : Int) := by omega
  have v2 : (L : Int) ≤ (o2.cap : Int) := by omega
  have v3 : (L : Int) ≤ (o1.m : Int) := by omega
  clear h1 h2 r1 r2 hc2 hc1 hab hbb t1 hz hLl
  have hcase : (c2 > c1 ∧ L = c1) ∨ (¬ c2 > c1 ∧ L = c2) := by omega
  clear hL
  rcases hcase with ⟨hgt, rfl⟩ | ⟨hgt, rfl⟩
  all_goals
    unfold O.ptr at *
    by_cases h0 : 0 < L
    · have zm : (0 : Int) < (L : Int) := by omega
      go_enter Try.func66, Try.ntmps66
      go_wp2_with (first | (go_at_call 74; (with_reducible refine (notNil2 _ _).mono ?_); rintro e w1 ⟨rfl, rfl⟩) | (go_at_call 71; (with_reducible refine (HW1.out _ (Only.refl _ _)).mono ?_); rintro e w1 ⟨rfl, rfl⟩) | (go_at_call 71; (with_reducible refine (HW2.out _ (Only.refl _ _)).mono ?_); rintro e w1 ⟨rfl, rfl⟩))
      go_quiet ((go_at_call 81; exact Calls.quiet_of (HP.out h0 _ (by exact rfl))))
      go_wp2_with fail
      all_goals first | (with_reducible refine (HQ.out _).mono ?_) | (have hcl : o1.cap = L := (by omega); have HQ3 := HQ2.out hcl; with_reducible refine (HQ3 _).mono ?_)
      all_goals
        rintro e w2 ⟨rfl, m2, rfl⟩
        go_wp2_with fail
        go_ret
        exact ⟨ret_int (by omega), by repeat (first | exact Only.refl _ _ | apply Only.drewN | apply Only.drew)⟩
    · have zm : ¬ (0 : Int) < (L : Int) := by omega
      have hy : y1 = 0 := HZ.out (by omega)
      go_enter Try.func66, Try.ntmps66
      go_wp2_with (first | (go_at_call 74; (with_reducible refine (notNil2 _ _).mono ?_); rintro e w1 ⟨rfl, rfl⟩) | (go_at_call 71; (with_reducible refine (HW1.out _ (Only.refl _ _)).mono ?_); rintro e w1 ⟨rfl, rfl⟩) | (go_at_call 71; (with_reducible refine (HW2.out _ (Only.refl _ _)).mono ?_); rintro e w1 ⟨rfl, rfl⟩))
      all_goals first | (with_reducible refine HQW.out.mono ?_) | (have hcl : o1.cap = L := (by omega); have HQ3 := HQ2W.out hcl; with_reducible refine HQ3.mono ?_)
      all_goals
        rintro e w2 ⟨rfl, m2, rfl⟩
        go_wp2_with fail
        go_ret
        exact ⟨ret_int (by omega), by repeat (first | exact Only.refl _ _ | apply Only.drewN | apply Only.drew)⟩
end Go.Proofs.Ythnfoiaemeklnaa.bs

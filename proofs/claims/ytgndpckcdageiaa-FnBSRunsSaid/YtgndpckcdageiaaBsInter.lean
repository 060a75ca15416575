/-
  Bitsets: Intersection, Difference.
-/
import Derived.Test.YtgndpckcdageiaaBsClone
namespace Go.Proofs.Ytgndpckcdageiaa.bs
open Go.RowKit Go.Proofs.Ytgndpckcdageiaa.base Go.Proofs.Ytgndpckcdageiaa.heap Go.Proofs.Ytgndpckcdageiaa.bit
set_option linter.unusedVariables false

/-- word by word: the first k words have been worked on, the others are D -/
def WorkedD (f : Bool → Bool → Bool) (sw lw : List Nat) (D : Nat → Bool) (ws : List Nat) (k : Nat) : Prop := ∀ j, bit ws j = if j < 64 * k then f (bit sw j) (bit lw j) else D j
theorem WorkedD.step {f : Bool → Bool → Bool} {sw lw ws : List Nat} {D : Nat → Bool} {k X : Nat} (h : WorkedD f sw lw D ws k) (hk : k < ws.length) (hX : ∀ c, c < 64 → X.testBit c = f ((sw.getD k 0).testBit c) ((lw.getD k 0).testBit c)) : WorkedD f sw lw D (ws.set k X) (k + 1) := by
  intro j
  rw [bit_set _ _ _ _ hk]
  by_cases hj : j / 64 = k
  · rw [if_pos hj, hX _ (Nat.mod_lt _ (by omega)), if_pos (by omega)]
    unfold bit
    rw [hj]
  · rw [if_neg hj, h j]
    by_cases c : j < 64 * k
    · rw [if_pos c, if_pos (by omega)]
    · rw [if_neg c, if_neg (by omega)]
theorem bit_zeros (n j : Nat) : bit (List.replicate n 0) j = false := by
  unfold bit
  have : (List.replicate n 0).getD (j / 64) 0 = 0 := by
    simp only [List.getD_eq_getElem?_getD, List.getElem?_replicate]
    split <;> rfl
  rw [this, Nat.zero_testBit]

/-- a word without the bits of another one -/
def anot (x y : Nat) : Nat := x &&& inv y
theorem anot_eq {x y : Nat} (hx : Lt64 x) (hy : Lt64 y) : bits .andNot .u64 (x : Int) (y : Int) = (anot x y : Int) := u64_andNot_nat x y hx hy
theorem anot_lt {x y : Nat} (hx : Lt64 x) : Lt64 (anot x y) := lt64_and hx
theorem anot_bit {x y : Nat} (hx : Lt64 x) (hy : Lt64 y) (k : Nat) (hk : k < 64) : (anot x y).testBit k = (x.testBit k && !y.testBit k) := by
  unfold anot
  rw [Nat.testBit_and, inv_bit hy hk]

/-- the last word's mask -/
theorem mask_low2 {x r : Nat} (hx : Lt64 x) (hr : 0 < r) (hr2 : r < 64) : bits .and .u64 (x : Int) (18446744073709551615 / 2 ^ (64 - r)) = ((x % 2 ^ r : Nat) : Int) := by
  have e : (18446744073709551615 : Nat) / 2 ^ (64 - r) = 2 ^ r - 1 := by
    have h1 : (2:Nat) ^ 64 = 2 ^ (64 - r) * 2 ^ r := by rw [← Nat.pow_add]; congr 1; omega
    have h2 : ∀ y, y = (2 : Nat) ^ 64 → (18446744073709551615 : Nat) / 2 ^ (64 - r) = (y - 1) / 2 ^ (64 - r) := fun y hy => by subst hy; rfl
    have hp : 0 < 2 ^ (64 - r) := Nat.two_pow_pos _
    have hq : 0 < 2 ^ r := Nat.two_pow_pos _
    rw [h2 _ h1.symm]
    clear h1 h2
    obtain ⟨q, hq'⟩ : ∃ q, 2 ^ r = q + 1 := ⟨2 ^ r - 1, by omega⟩
    obtain ⟨s, hs⟩ : ∃ s, 2 ^ (64 - r) = s + 1 := ⟨2 ^ (64 - r) - 1, by omega⟩
    rw [hq', hs]
    have : (s + 1) * (q + 1) - 1 = s + (s + 1) * q := by rw [Nat.mul_add, Nat.mul_one]; omega
    rw [this, Nat.add_mul_div_left _ _ (by omega), Nat.div_eq_of_lt (by omega)]
    omega
  have e2 : (18446744073709551615 : Int) / 2 ^ (64 - r) = ((2 ^ r - 1 : Nat) : Int) := by
    rw [← e, Int.natCast_ediv, Int.natCast_pow]; rfl
  rw [e2, and_nat hx (by have := lt64_pow hr2; unfold Lt64 at *; omega), Nat.and_two_pow_sub_one_eq_mod]

/-- the last word, cleaned -/
def Cleaned (o : O) (w : World) (e : Ending) (w' : World) : Prop := e = .returned (.tuple #[]) ∧ ∃ ws, (o.having ws).ok w' ∧ Only o.foot w w' ∧ ∀ j, bit ws j = (decide (j < o.n) && bit o.ws j)

theorem lenExact (o : O) (w : World) (h : o.ok w) (hn : o.n ≤ 1048576) (x : Bool) (hx : decide (o.n % 64 = 0) = x) : Calls Try.prog 48 #[o.ptr] w fun e w' => e = .returned (.bool x) ∧ ∃ m, w' = w.drewN m := by
  obtain ⟨c0, c1, f0, f1⟩ := h.cells
  have HI := Lib.hid (fun wx => wordsIndex o.n (by omega) wx)
  have hb : (((o.n % 64 : Nat) : Int) == 0) = x := by
    rw [← hx]
    by_cases h0 : o.n % 64 = 0
    · rw [h0]; rfl
    · rw [decide_eq_false h0, beq_eq_false_iff_ne]; omega
  generalize o.n % 64 = r at *
  have HB := Lib.hid hb
  clear h hx hb
  unfold O.ptr
  go_enter Try.func48, Try.ntmps48
  go_wp2_with (go_at_call 39; (with_reducible refine (HI.out _).mono ?_); rintro e w1 ⟨rfl, rfl⟩)
  go_ret
  exact ⟨by rw [← HB.out]; rfl, 0, rfl⟩

set_option maxRecDepth 100000 in
set_option maxHeartbeats 1600000 in
theorem cleanLastWord (o : O) (w : World) (h : o.ok w) (hm : o.m = (o.n + 63) / 64) (hn : o.n ≤ 1048576) :
    Calls Try.prog 40 #[o.ptr] w (Cleaned o w) := by
  by_cases h0 : o.n % 64 = 0
  · have HE := Lib.hid (lenExact o w h hn true (decide_eq_true h0))
    have HF : Hid (∀ m, Cleaned o w (.returned (.tuple #[])) (w.drewN m)) := Lib.hid (fun m => ⟨rfl, o.ws, h.of_heap rfl, (Only.refl _ w).drewN m, fun j => by
      by_cases hj : j < o.n
      · rw [decide_eq_true hj, Bool.true_and]
      · rw [decide_eq_false hj, Bool.false_and]
        unfold bit
        have hl := h.len
        have : o.ws.getD (j / 64) 0 = 0 := by simp [show o.ws.length ≤ j / 64 by omega]
        rw [this, Nat.zero_testBit]⟩)
    clear h hm hn h0
    unfold O.ptr at *
    go_enter Try.func40, Try.ntmps40
    go_wp2_with fail
    refine HE.out.mono ?_
    rintro e w1 ⟨rfl, m, rfl⟩
    go_wp2_with fail
    go_end0
    exact HF.out m
  · have HE := Lib.hid (lenExact o w h hn false (decide_eq_false h0))
    obtain ⟨bb, hbb, -⟩ := h.facts
    have H : Hid ((o.having o.ws).ok w) := Lib.hid h
    obtain ⟨c0, c1, f0, f1, hcs, hfr, hp, hbl, hne⟩ := having_facts H.out hbb
    obtain ⟨r, hr⟩ : ∃ r, o.n % 64 = r := ⟨_, rfl⟩
    have HI : Hid (∀ wx, Calls Try.prog 39 #[.int .u64 (o.n : Int)] wx fun e w' => e = .returned (.int .u64 (r : Int)) ∧ w' = wx) := Lib.hid (fun wx => by
      have := wordsIndex o.n (by omega) wx
      rwa [hr] at this)
    have hr0 : 0 < r := by omega
    have hr64 : r < 64 := by omega
    have hm1 : o.m - 1 < o.m := by omega
    have hlen := having_len H.out
    have ck := hcs (o.m - 1) hm1
    have fk := hfr (o.m - 1)
    have HWx : Hid (Lt64 (o.ws.getD (o.m - 1) 0)) := Lib.hid (h.fits.at _)
    have HST : Hid (∀ x : Nat, x = o.ws.getD (o.m - 1) 0 → ∀ wx : World, wx.heap = (w.setCell ⟨bb, o.m - 1, none⟩ (.int .u64 ((x % 2 ^ r : Nat) : Int))).heap → Only o.foot w wx → Cleaned o w (.returned (.tuple #[])) wx) := Lib.hid (fun x hx wx hwx hO => by
      subst hx
      have hxl : Lt64 (o.ws.getD (o.m - 1) 0 % 2 ^ r) := Nat.lt_of_le_of_lt (Nat.mod_le _ _) HWx.out
      refine ⟨rfl, _, (having_store H.out hbb hm1 hxl).of_heap hwx, hO, fun j => ?_⟩
      rw [bit_set _ _ _ _ (by rw [hlen]; exact hm1)]
      by_cases hj : j / 64 = o.m - 1
      · rw [if_pos hj, Nat.testBit_mod_two_pow]
        have e : (decide (j % 64 < r)) = decide (j < o.n) := by rw [decide_eq_decide]; omega
        rw [e]
        unfold bit
        rw [hj]
      · rw [if_neg hj]
        by_cases hjn : j < o.n
        · rw [decide_eq_true hjn, Bool.true_and]
        · rw [decide_eq_false hjn, Bool.false_and]
          unfold bit
          have : o.ws.getD (j / 64) 0 = 0 := by simp [show o.ws.length ≤ j / 64 by omega]
          rw [this, Nat.zero_testBit])
    have HO2 : Hid (∀ v m, Only o.foot w ((w.drewN m).setCell ⟨bb, o.m - 1, none⟩ v).drew) := Lib.hid (fun v m => (((Only.refl o.foot w).drewN m).setCell _ _ (fun _ => .inr (by rw [hbb]; rfl))).drew)
    have t1 : ((o.m : Int) - 1).toNat = o.m - 1 := by omega
    have t2 : (0 : Int) ≤ (o.m : Int) - 1 := by omega
    have t3 : (o.m : Int) - 1 < (o.m : Int) := by omega
    have t4 : IntKind.i64.wrap ((o.m : Int) - 1) = (o.m : Int) - 1 := by rw [IntKind.wrap_i64]; omega
    have t5 : (1 : Int) ≤ (o.m : Int) := by omega
    have t6 : 1 ≤ o.m := by omega
    have t7 : 0 < o.m := by omega
    have t8 : IntKind.u64.wrap (64 - (r : Int)) = 64 - (r : Int) := by rw [IntKind.wrap_u64]; omega
    have t9 : (0 : Int) ≤ 64 - (r : Int) := by omega
    have t10 : (64 - (r : Int)).toNat = 64 - r := by omega
    clear hcs hfr h hr h0 hlen hm
    generalize o.ws.getD (o.m - 1) 0 = x at *
    have e1 : bits .and .u64 (x : Int) (18446744073709551615 / 2 ^ (64 - r)) = ((x % 2 ^ r : Nat) : Int) := mask_low2 HWx.out hr0 hr64
    have HN := Lib.hid (HST.out x rfl)
    generalize x % 2 ^ r = X at *
    clear HST
    unfold O.ptr at *
    go_enter Try.func40, Try.ntmps40
    go_wp2_with fail
    refine HE.out.mono ?_
    rintro e w1 ⟨rfl, m, hw1⟩
    have HW1 := Lib.hid hw1
    have d0 : w1.cell? ⟨o.p, 0, none⟩ = some (.int .u64 (o.n : Int)) := by rw [hw1]; exact c0
    have d1 : w1.cell? ⟨o.p, 1, none⟩ = some (.slice (some ⟨bb, 0, none⟩) o.m o.cap) := by rw [hw1]; exact c1
    have dk : w1.cell? ⟨bb, o.m - 1, none⟩ = some (.int .u64 (x : Int)) := by rw [hw1]; exact ck
    have dfk : w1.frozen? ⟨bb, o.m - 1, none⟩ = false := by rw [hw1]; exact fk
    clear hw1 c0 c1 ck fk f0 f1
    go_wp2_with fail
    refine wp_region_still_tail 21 (by kernel_rfl) (by kernel_rfl) ?_
    simp only [List.take_succ_cons, List.take_zero, List.drop_succ_cons, List.drop_zero]
    repeat still_step
    still_call (HI.out _)
    repeat still_step
    refine wpStill_nil ?_
    go_wp2
    go_end0
    have hw1 := HW1.out
    subst hw1
    exact HN.out _ rfl (HO2.out _ m)
end Go.Proofs.Ytgndpckcdageiaa.bs

/-
  ClearAll; what each operation leaves, in the spelling of the steps.
-/
import Derived.Test.YtgndpckcdageiaaBrPlan
import Derived.Test.YtgndpckcdageiaaBrMem
import Derived.Test.YtgndpckcdageiaaBrOps
import Derived.Test.YtgndpckcdageiaaBsRangeI
import Derived.Test.YtgndpckcdageiaaBsDelete
import Derived.Test.YtgndpckcdageiaaBsShrink
import Derived.Test.YtgndpckcdageiaaBsDiff
import Derived.Test.YtgndpckcdageiaaBsSym
import Derived.Test.YtgndpckcdageiaaBsSelf
namespace Go.Proofs.Ytgndpckcdageiaa.bs
open Go.RowKit Go.Proofs.Ytgndpckcdageiaa.base Go.Proofs.Ytgndpckcdageiaa.heap Go.Proofs.Ytgndpckcdageiaa.bit
set_option linter.unusedVariables false
theorem put_none {b : List Bool} {f t how : Nat} (h : t ≤ f) : put b f t how = b := by unfold put; rw [if_pos h]
theorem put_some {b : List Bool} {f t how : Nat} (h : f < t) (hh : how ≠ 0) : put b f t how = putL (grow b t) f t how := by unfold put; rw [if_neg (by omega), if_neg hh]
theorem put_zero {b : List Bool} {f t : Nat} (h : f < t) : put b f t 0 = putL b f t 0 := by unfold put; rw [if_neg (by omega), if_pos rfl]
theorem range_put (b : List Bool) (f t how : Nat) (hh : how ≠ 0) : rangeL b f t how = put b f t how := by
  unfold rangeL
  by_cases h : f < t
  · rw [if_pos h, put_some h hh]
  · rw [if_neg h, put_none (by omega)]
theorem put_all (b : List Bool) (how : Nat) : put b 0 b.length how = putL b 0 b.length how := by
  rcases Nat.eq_zero_or_pos b.length with h | h
  · have e : b = [] := List.eq_nil_of_length_eq_zero h
    subst e; rfl
  · by_cases hh : how = 0
    · subst hh; exact put_zero h
    · rw [put_some h hh, grow_of_le (Nat.le_refl _)]
theorem all_get (b : List Bool) (how j : Nat) : (put b 0 b.length how).getD j false = (decide (j < b.length) && (how == 1 || (how == 2 && !b.getD j false))) := by
  rw [put_all, putL_bit]
  by_cases h : j < b.length
  · rw [if_pos h, if_pos ⟨Nat.zero_le _, h⟩, decide_eq_true h, Bool.true_and]
  · rw [if_neg h, decide_eq_false h, Bool.false_and]
theorem all_len (b : List Bool) (how : Nat) : (put b 0 b.length how).length = b.length := by rw [put_all, putL_len]
theorem ones_put (b : List Bool) : List.replicate b.length true = put b 0 b.length 1 := by
  apply ext_getD (by rw [all_len, List.length_replicate])
  intro j hj
  rw [ones_get, all_get]
  simp
theorem not_put (b : List Bool) : notL b = put b 0 b.length 2 := by
  apply ext_getD (by rw [all_len, notL_len])
  intro j hj
  rw [notL_get, all_get]
  simp
set_option maxRecDepth 100000 in
set_option maxHeartbeats 3200000 in
theorem clearAll (o : O) (b : List Bool) (w : World) (h1 : o.ok w) (r1 : o.rep b) (hn : b.length ≤ 1048000) :
    Calls Try.prog 23 #[o.ptr] w fun e w' => e = .returned o.ptr ∧ Upd o (put b 0 b.length 0) w w' := by
  obtain ⟨ob, hob, -⟩ := h1.facts
  have HOK : Hid ((o.having o.ws).ok w) := Lib.hid h1
  obtain ⟨c0, c1, f0, f1, -⟩ := having_facts HOK.out hob
  have R1 := Lib.hid r1
  have HOB := Lib.hid hob
  have hm1 : o.m ≤ 20000 := by have := r1.fit; omega
  have hcmp : ∀ wx, (binOp .neq 56 (.slice (some ⟨ob, 0, none⟩) o.m o.cap) (.slice none 0 0)).run Try.prog wx = .ok (.bool true) wx := fun wx => run_neq_slice_nil_any _ _ _ _ _ _ _ _ Try.underlying56
  clear h1 r1 hob
  unfold O.ptr at *
  go_enter Try.func23, Try.ntmps23
  go_wp2_with fail
  go_loopw [3, 18] (fun _ i wr => ∃ (k : Nat) (ws : List Nat), k ≤ o.m ∧ i = .int .i64 (k : Int) ∧ Hid ((o.having ws).ok wr ∧ (∀ j, j < 64 * k → bit ws j = false) ∧ Only o.foot w wr)) (fun _ i _ => o.m - (intOf i).toNat)
  case atStart => exact ⟨0, o.ws, Nat.zero_le _, rfl, Lib.hid ⟨HOK.out, fun j hj => by omega, Only.refl _ _⟩⟩
  case round =>
    obtain ⟨k, ws, hk, rfl, hrel⟩ := hrel
    clear c0 c1 f0 f1
    have HL2 := Lib.hid (having_len hrel.out.1)
    obtain ⟨c0, c1', cf0, cf1, ccs, cfr, cp, cbl, cne⟩ := having_facts hrel.out.1 HOB.out
    by_cases hlt : k < o.m
    · have hlt' : (k : Int) < (o.m : Int) := by omega
      have ck := ccs k (by omega)
      have fk := cfr k
      have HN : Hid ((o.having (ws.set k 0)).ok (wr.setCell ⟨ob, k, none⟩ (.int .u64 0)) ∧ (∀ j, j < 64 * (k + 1) → bit (ws.set k 0) j = false) ∧ Only o.foot w (wr.setCell ⟨ob, k, none⟩ (.int .u64 0))) := Lib.hid (by
        refine ⟨having_store (x := 0) hrel.out.1 HOB.out hlt (by unfold Lt64; omega), fun j hj => ?_, hrel.out.2.2.setCell _ _ (fun _ => .inr (by rw [HOB.out]; rfl))⟩
        rw [bit_set _ _ _ _ (by rw [HL2.out]; exact hlt)]
        by_cases hjk : j / 64 = k
        · rw [if_pos hjk]; simp
        · rw [if_neg hjk]
          exact hrel.out.2.1 j (by omega))
      clear ccs cfr
      generalize ws.getD k 0 = z at *
      go_wp2
      go_roundw
      case rel => exact ⟨k + 1, _, by omega, by go_num, Lib.hid HN.out⟩
      case measure => simp [intOf]; omega
    · obtain rfl : k = o.m := by omega
      have hge : ¬ (o.m : Int) < (o.m : Int) := by omega
      clear ccs cfr
      have HF : Hid (Upd o (put b 0 b.length 0) w wr) := Lib.hid (by
        refine having_upd (ws := ws) hrel.out.1 ⟨by rw [all_len]; exact R1.out.len, by rw [all_len]; exact R1.out.fit, fun j => ?_⟩ hrel.out.2.2
        show bit ws j = _
        rw [all_get]
        by_cases hj : j < b.length
        · have := R1.out.room
          rw [hrel.out.2.1 j (by omega)]; simp
        · rw [decide_eq_false hj, Bool.false_and]
          rcases Nat.lt_or_ge j (64 * o.m) with h3 | h3
          · exact hrel.out.2.1 j h3
          · exact bit_far ws j (by rw [HL2.out]; exact h3))
      go_wp2_with fail
      go_ret
      exact ⟨rfl, HF.out⟩
section
variable (o : O) (b : List Bool) (w : World) (h : o.ok w) (hr : o.rep b) (hn : b.length ≤ 100000)
include h hr hn
theorem k_set (A B : Nat) (hA : A < 600) : Calls Try.prog 18 #[o.ptr, .int .u64 (A : Int)] w fun e w' => (∃ v, e = .returned v) ∧ Upd o (nextL 1 b [] A B) w w' :=
  (bs_set o b A w h hr (by have := hn; omega)).mono fun e w' ⟨he, hu⟩ => ⟨⟨_, he⟩, by have e1 : nextL 1 b [] A B = putL (grow b (A + 1)) A (A + 1) 1 := put_some (by omega) (by decide); rw [e1]; exact hu⟩
theorem k_clear (A B : Nat) (hA : A < 600) : Calls Try.prog 19 #[o.ptr, .int .u64 (A : Int)] w fun e w' => (∃ v, e = .returned v) ∧ Upd o (nextL 2 b [] A B) w w' :=
  (bs_clear o b A w h hr (by have := hn; omega)).mono fun e w' ⟨he, hu⟩ => ⟨⟨_, he⟩, by have e1 : nextL 2 b [] A B = putL b A (A + 1) 0 := put_zero (by omega); rw [e1]; exact hu⟩
theorem k_flip (A B : Nat) (hA : A < 600) : Calls Try.prog 20 #[o.ptr, .int .u64 (A : Int)] w fun e w' => (∃ v, e = .returned v) ∧ Upd o (nextL 3 b [] A B) w w' :=
  (bs_flip o b A w h hr (by have := hn; omega)).mono fun e w' ⟨he, hu⟩ => ⟨⟨_, he⟩, by have e1 : nextL 3 b [] A B = putL (grow b (A + 1)) A (A + 1) 2 := put_some (by omega) (by decide); rw [e1]; exact hu⟩
theorem k_setRange (A B : Nat) (hB : B < 600) : Calls Try.prog 21 #[o.ptr, .int .u64 (A : Int), .int .u64 (B : Int)] w fun e w' => (∃ v, e = .returned v) ∧ Upd o (nextL 4 b [] A B) w w' :=
  (setRange o b A B w h hr (by omega) (by omega)).mono fun e w' ⟨he, hu⟩ => ⟨⟨_, he⟩, by have e1 : nextL 4 b [] A B = rangeL b A B 1 := (range_put b A B 1 (by decide)).symm; rw [e1]; exact hu⟩
theorem k_flipRange (A B : Nat) (hB : B < 600) : Calls Try.prog 22 #[o.ptr, .int .u64 (A : Int), .int .u64 (B : Int)] w fun e w' => (∃ v, e = .returned v) ∧ Upd o (nextL 5 b [] A B) w w' :=
  (flipRange o b A B w h hr (by omega) (by omega)).mono fun e w' ⟨he, hu⟩ => ⟨⟨_, he⟩, by have e1 : nextL 5 b [] A B = rangeL b A B 2 := (range_put b A B 2 (by decide)).symm; rw [e1]; exact hu⟩
theorem k_clearAll (A B : Nat) : Calls Try.prog 23 #[o.ptr] w fun e w' => (∃ v, e = .returned v) ∧ Upd o (nextL 6 b [] A B) w w' :=
  (clearAll o b w h hr (by omega)).mono fun e w' ⟨he, hu⟩ => ⟨⟨_, he⟩, hu⟩
theorem k_setAll (A B : Nat) : Calls Try.prog 24 #[o.ptr] w fun e w' => (∃ v, e = .returned v) ∧ Upd o (nextL 7 b [] A B) w w' :=
  (setAll o b w h hr hr.fit (by omega)).mono fun e w' ⟨he, hu⟩ => ⟨⟨_, he⟩, by have e1 : nextL 7 b [] A B = List.replicate b.length true := (ones_put b).symm; rw [e1]; exact hu⟩
theorem k_insert (A B : Nat) (hA : A < b.length) : Calls Try.prog 25 #[o.ptr, .int .u64 (A : Int)] w fun e w' => (∃ v, e = .returned v) ∧ Upd o (nextL 8 b [] A B) w w' :=
  (insertAt o b A w h hr hA (by omega)).mono fun e w' ⟨he, hu⟩ => ⟨⟨_, he⟩, hu⟩
theorem k_delete (A B : Nat) (hA : A < b.length) : Calls Try.prog 26 #[o.ptr, .int .u64 (A : Int)] w fun e w' => (∃ v, e = .returned v) ∧ Upd o (nextL 9 b [] A B) w w' :=
  (deleteAt o b A w h hr hA (by omega) (by have := hr.fit; omega)).mono fun e w' ⟨he, hu⟩ => ⟨⟨_, he⟩, hu⟩
theorem k_shrink (A B : Nat) (hA : A < b.length) : Calls Try.prog 27 #[o.ptr, .int .u64 (A : Int)] w fun e w' => (∃ v, e = .returned v) ∧ Upd o (nextL 10 b [] A B) w w' :=
  (shrink o b A w h hr hA (by omega)).mono fun e w' ⟨he, hu⟩ => ⟨⟨_, he⟩, hu⟩
theorem k_clone : Calls Try.prog 31 #[o.ptr] w (FObj w b) := clone o b w h hr hr.fit (by omega)
theorem k_comp : Calls Try.prog 32 #[o.ptr] w (FObj w (put b 0 b.length 2)) := by rw [← not_put]; exact complement o b w h hr hr.fit (by omega)
end
/-- the operations with another one, or with itself -/
theorem k_union (o o2 : O) (b b2 : List Bool) (w : World) (h : o.ok w) (hr : o.rep b) (h2 : o2.ok w) (hr2 : o2.rep b2) (hn : b.length ≤ 100000) (hn2 : b2.length ≤ 100000) (hd : (o = o2 ∧ b = b2) ∨ ∀ j, o.foot j → ¬ o2.foot j) (A B : Nat) : Calls Try.prog 28 #[o.ptr, o2.ptr] w fun e w' => (∃ v, e = .returned v) ∧ Upd o (nextL 11 b b2 A B) w w' := by
  rcases hd with ⟨rfl, rfl⟩ | hd
  · refine (inPlaceUnion_self o b w h hr (by omega)).mono fun e w' ⟨he, hu⟩ => ⟨⟨_, he⟩, ?_⟩
    have e1 : nextL 11 b b A B = twoL (fun x y => x || y) b b b.length := by show twoL _ b b (max b.length b.length) = _; rw [Nat.max_self]
    rw [e1]; exact hu
  · exact (inPlaceUnion o o2 b b2 w h h2 hr hr2 hd hr2.fit (by omega) (by omega)).mono fun e w' ⟨he, hu⟩ => ⟨⟨_, he⟩, hu⟩
theorem k_diff (o o2 : O) (b b2 : List Bool) (w : World) (h : o.ok w) (hr : o.rep b) (h2 : o2.ok w) (hr2 : o2.rep b2) (hn : b.length ≤ 100000) (hn2 : b2.length ≤ 100000) (hd : (o = o2 ∧ b = b2) ∨ ∀ j, o.foot j → ¬ o2.foot j) (A B : Nat) : Calls Try.prog 29 #[o.ptr, o2.ptr] w fun e w' => (∃ v, e = .returned v) ∧ Upd o (nextL 12 b b2 A B) w w' := by
  rcases hd with ⟨rfl, rfl⟩ | hd
  · exact (inPlaceDifference_self o b w h hr (by omega)).mono fun e w' ⟨he, hu⟩ => ⟨⟨_, he⟩, hu⟩
  · exact (inPlaceDifference o o2 b b2 w h h2 hr hr2 hd (by omega) (by omega)).mono fun e w' ⟨he, hu⟩ => ⟨⟨_, he⟩, hu⟩
theorem k_sym (o o2 : O) (b b2 : List Bool) (w : World) (h : o.ok w) (hr : o.rep b) (h2 : o2.ok w) (hr2 : o2.rep b2) (hn : b.length ≤ 100000) (hn2 : b2.length ≤ 100000) (hd : (o = o2 ∧ b = b2) ∨ ∀ j, o.foot j → ¬ o2.foot j) (A B : Nat) : Calls Try.prog 30 #[o.ptr, o2.ptr] w fun e w' => (∃ v, e = .returned v) ∧ Upd o (nextL 13 b b2 A B) w w' := by
  rcases hd with ⟨rfl, rfl⟩ | hd
  · refine (inPlaceSymmetricDifference_self o b w h hr (by omega)).mono fun e w' ⟨he, hu⟩ => ⟨⟨_, he⟩, ?_⟩
    have e1 : nextL 13 b b A B = twoL (fun x y => x ^^ y) b b b.length := by show twoL _ b b (max b.length b.length) = _; rw [Nat.max_self]
    rw [e1]; exact hu
  · exact (inPlaceSym o o2 b b2 w h h2 hr hr2 hd hr2.fit (by omega) (by omega)).mono fun e w' ⟨he, hu⟩ => ⟨⟨_, he⟩, hu⟩
end Go.Proofs.Ytgndpckcdageiaa.bs

/-
  Bitsets: Set and Flip at any place, ClearAll.
-/
import Derived.Test.YtgndpckcdageiaaBsFlip
import Derived.Test.YtgndpckcdageiaaBsComp
namespace Go.Proofs.Ytgndpckcdageiaa.bs
open Go.RowKit Go.Proofs.Ytgndpckcdageiaa.base Go.Proofs.Ytgndpckcdageiaa.heap Go.Proofs.Ytgndpckcdageiaa.bit
set_option linter.unusedVariables false
theorem or_put {ws : List Nat} {i : Nat} (hi : i / 64 < ws.length) (j : Nat) : bit (ws.set (i / 64) (ws.getD (i / 64) 0 ||| 2 ^ (i % 64))) j = (bit ws j || decide (j = i)) := by
  unfold bit
  rw [List.getD_eq_getElem?_getD, List.getElem?_set]
  by_cases e : i / 64 = j / 64
  · rw [if_pos e, if_pos hi]
    show (ws.getD (i / 64) 0 ||| 2 ^ (i % 64)).testBit (j % 64) = _
    rw [Nat.testBit_or, Nat.testBit_two_pow, e]
    by_cases e2 : i % 64 = j % 64
    · have : j = i := by omega
      simp [e2, this]
    · have : ¬ j = i := fun h => e2 (by rw [h])
      simp [e2, this]
  · rw [if_neg e, ← List.getD_eq_getElem?_getD]
    have : ¬ j = i := fun h => e (by rw [h])
    simp [this]
theorem xor_put {ws : List Nat} {i : Nat} (hi : i / 64 < ws.length) (j : Nat) : bit (ws.set (i / 64) (ws.getD (i / 64) 0 ^^^ 2 ^ (i % 64))) j = (bit ws j ^^ decide (j = i)) := by
  unfold bit
  rw [List.getD_eq_getElem?_getD, List.getElem?_set]
  by_cases e : i / 64 = j / 64
  · rw [if_pos e, if_pos hi]
    show (ws.getD (i / 64) 0 ^^^ 2 ^ (i % 64)).testBit (j % 64) = _
    rw [Nat.testBit_xor, Nat.testBit_two_pow, e]
    by_cases e2 : i % 64 = j % 64
    · have : j = i := by omega
      simp [e2, this]
    · have : ¬ j = i := fun h => e2 (by rw [h])
      simp [e2, this]
  · rw [if_neg e, ← List.getD_eq_getElem?_getD]
    have : ¬ j = i := fun h => e (by rw [h])
    simp [this]
theorem putL_one (b : List Bool) {i how : Nat} (hi : i < b.length) (j : Nat) : (putL b i (i + 1) how).getD j false = if j = i then (how == 1 || (how == 2 && !b.getD i false)) else b.getD j false := by
  rw [putL_bit]
  by_cases e : j = i
  · subst e; rw [if_pos hi, if_pos ⟨Nat.le_refl _, by omega⟩, if_pos rfl]
  · rw [if_neg e]
    by_cases h : j < b.length
    · rw [if_pos h, if_neg (by omega)]
    · rw [if_neg h]; simp [Nat.le_of_not_lt h]
theorem or_rep {o : O} {b : List Bool} {i : Nat} (hl : o.ws.length = o.m) (hr : o.rep b) (hi : i < b.length) : (o.having (o.ws.set (i / 64) (o.ws.getD (i / 64) 0 ||| 2 ^ (i % 64)))).rep (putL b i (i + 1) 1) := by
  refine ⟨by rw [putL_len]; exact hr.len, by rw [putL_len]; exact hr.fit, fun j => ?_⟩
  show bit (o.ws.set _ _) j = _
  rw [or_put (by have := hr.room; omega), putL_one b hi, hr.bits]
  by_cases e : j = i <;> simp [e]
theorem xor_rep {o : O} {b : List Bool} {i : Nat} (hl : o.ws.length = o.m) (hr : o.rep b) (hi : i < b.length) : (o.having (o.ws.set (i / 64) (o.ws.getD (i / 64) 0 ^^^ 2 ^ (i % 64)))).rep (putL b i (i + 1) 2) := by
  refine ⟨by rw [putL_len]; exact hr.len, by rw [putL_len]; exact hr.fit, fun j => ?_⟩
  show bit (o.ws.set _ _) j = _
  rw [xor_put (by have := hr.room; omega), putL_one b hi, hr.bits]
  by_cases e : j = i
  · subst e; simp
  · simp [e]
theorem xor_pow {x k : Nat} (hx : Lt64 x) (hk : k < 64) : bits .xor .u64 (x : Int) (2 ^ k % 18446744073709551616) = ((x ^^^ 2 ^ k : Nat) : Int) := by
  rw [pow_nat k hk]; exact xor_nat hx (lt64_pow hk)
/-- bit i is set, and all bits up to it are there -/
theorem bs_set (o : O) (b : List Bool) (i : Nat) (w : World) (h : o.ok w) (hr : o.rep b) (hi2 : i ≤ 1048576) :
    Calls Try.prog 18 #[o.ptr, .int .u64 (i : Int)] w fun e w' => e = .returned o.ptr ∧ Upd o (putL (grow b (i + 1)) i (i + 1) 1) w w' := by
  by_cases hi : i < b.length
  · obtain ⟨bb, ha, _⟩ := h.facts
    have hml : i / 64 < o.m := by have := hr.room; omega
    rw [grow_of_le (by omega)]
    refine (set_raw o i w bb ha h (by rw [hr.len]; exact hi) hml (by omega)).mono ?_
    rintro e w' ⟨rfl, m, rfl⟩
    refine ⟨rfl, having_upd ((having_store (ws := o.ws) h ha hml (lt64_or (h.fits.at _) (lt64_pow (Nat.mod_lt _ (by omega))))).of_heap rfl) (or_rep h.len hr hi) ?_⟩
    exact ((Only.refl o.foot w).setCell ⟨bb, i / 64, none⟩ _ (fun _ => .inr (by rw [ha]; exact rfl))).drewN m
  · have HE := Lib.hid (extendSet o b i w h hr hi2 (by omega))
    obtain ⟨c0, c1, f0, f1⟩ := h.cells
    rw [hr.len] at c0
    have hge : ¬ (i : Int) < (b.length : Int) := by omega
    have hge2 : (b.length : Int) ≤ (i : Int) := by omega
    have hgl : i < (grow b (i + 1)).length := by rw [grow_len]; omega
    generalize b.length = n at *
    clear h hr
    unfold O.ptr
    go_enter Try.func18, Try.ntmps18
    go_wp2_with (go_at_call 38; refine HE.out.mono ?_)
    rintro e w1 rfl ⟨o1, hp1, hok1, hr1, hm1, hO1, hf1⟩
    have HO1 : Hid (o1.p = o.p ∧ o1.ok w1 ∧ o1.rep (grow b (i + 1)) ∧ Only o.foot w w1 ∧ ∀ k, o1.foot k → o.foot k ∨ w.heap.size ≤ k) := Lib.hid ⟨hp1, hok1, hr1, hO1, hf1⟩
    obtain ⟨bb, ha, hpp, hb, hne, d0, d1, g0, g1, hc, hf, hmc, hcap⟩ := hok1.facts
    rw [hp1] at d0 d1 g0 g1 hne
    have hml : i / 64 < o1.m := by have := hr1.room; omega
    have cw := hc _ hml
    have fw := hf (i / 64)
    have hw := hok1.fits.at (i / 64)
    have hmi : (i : Int) / 64 < (o1.m : Int) := by omega
    have ht : ((i : Int) / 64).toNat = i / 64 := by omega
    have hz : (0 : Int) ≤ (i : Int) / 64 := by omega
    have HA := Lib.hid ha
    have HST : Hid (∀ m, Upd o (putL (grow b (i + 1)) i (i + 1) 1) w ((w1.setCell ⟨bb, i / 64, none⟩ (.int .u64 ((o1.ws.getD (i / 64) 0 ||| 2 ^ (i % 64) : Nat) : Int))).drewN m)) := Lib.hid (fun m =>
      upd_trans hp1 hO1 hf1 (having_upd ((having_store (ws := o1.ws) hok1 ha hml (lt64_or hw (lt64_pow (Nat.mod_lt _ (by omega))))).of_heap rfl) (or_rep hok1.len hr1 hgl) (((Only.refl o1.foot w1).setCell ⟨bb, i / 64, none⟩ _ (fun _ => .inr (by rw [ha]; exact rfl))).drewN m)))
    have hb : Hid (∀ x : Nat, x = o1.ws.getD (i / 64) 0 → bits .or .u64 (x : Int) (2 ^ (i % 64) % 18446744073709551616) = ((o1.ws.getD (i / 64) 0 ||| 2 ^ (i % 64) : Nat) : Int)) := Lib.hid (fun x hx => by
      rw [hx]; exact or_pow hw (Nat.mod_lt _ (by omega)))
    clear hc hf hp1 hok1 hr1 hO1 hf1 hm1 ha hml hgl hge c0 c1 f0 f1 HE
    generalize hx : o1.ws.getD (i / 64) 0 = x at *
    have HX := Lib.hid hx
    clear hx hw
    go_wp2_with fail
    refine wp_region_still_tail 13 (by kernel_rfl) (by kernel_rfl) ?_
    simp only [List.take_succ_cons, List.take_zero, List.drop_succ_cons, List.drop_zero]
    repeat still_step
    still_call (wordsIndex i (by omega) _)
    repeat still_step
    refine wpStill_nil ?_
    go_wp2
    go_ret
    refine ⟨rfl, ?_⟩
    have := HST.out 1
    rw [← hb.out x rfl] at this
    exact this
set_option maxHeartbeats 800000 in
theorem bs_flip (o : O) (b : List Bool) (i : Nat) (w : World) (h : o.ok w) (hr : o.rep b) (hi2 : i ≤ 1048576) :
    Calls Try.prog 20 #[o.ptr, .int .u64 (i : Int)] w fun e w' => e = .returned o.ptr ∧ Upd o (putL (grow b (i + 1)) i (i + 1) 2) w w' := by
  by_cases hi : i < b.length
  · obtain ⟨bb, ha, hp, hb, hne, c0, c1, f0, f1, hc, hf, hmc, hcap⟩ := h.facts
    have hml : i / 64 < o.m := by have := hr.room; omega
    rw [grow_of_le (by omega)]
    have cw := hc _ hml
    have fw := hf (i / 64)
    have hw := h.fits.at (i / 64)
    rw [hr.len] at c0
    have hlt : (i : Int) < (b.length : Int) := by omega
    have hmi : (i : Int) / 64 < (o.m : Int) := by omega
    have ht : ((i : Int) / 64).toNat = i / 64 := by omega
    have hz : (0 : Int) ≤ (i : Int) / 64 := by omega
    have HST : Hid (∀ m, Upd o (putL b i (i + 1) 2) w ((w.setCell ⟨bb, i / 64, none⟩ (.int .u64 ((o.ws.getD (i / 64) 0 ^^^ 2 ^ (i % 64) : Nat) : Int))).drewN m)) := Lib.hid (fun m =>
      having_upd ((having_store (ws := o.ws) h ha hml (lt64_xor hw (lt64_pow (Nat.mod_lt _ (by omega))))).of_heap rfl) (xor_rep h.len hr hi) (((Only.refl o.foot w).setCell ⟨bb, i / 64, none⟩ _ (fun _ => .inr (by rw [ha]; exact rfl))).drewN m))
    have hb : Hid (∀ x : Nat, x = o.ws.getD (i / 64) 0 → bits .xor .u64 (x : Int) (2 ^ (i % 64) % 18446744073709551616) = ((o.ws.getD (i / 64) 0 ^^^ 2 ^ (i % 64) : Nat) : Int)) := Lib.hid (fun x hx => by
      rw [hx]; exact xor_pow hw (Nat.mod_lt _ (by omega)))
    clear hc hf h hr ha hml hi
    generalize b.length = n at *
    generalize hx : o.ws.getD (i / 64) 0 = x at *
    have HX := Lib.hid hx
    clear hx hw
    unfold O.ptr
    go_enter Try.func20, Try.ntmps20
    go_wp2_with fail
    refine wp_region_still_tail 13 (by kernel_rfl) (by kernel_rfl) ?_
    simp only [List.take_succ_cons, List.take_zero, List.drop_succ_cons, List.drop_zero]
    repeat still_step
    still_call (wordsIndex i (by omega) _)
    repeat still_step
    refine wpStill_nil ?_
    go_wp2
    go_ret
    refine ⟨rfl, ?_⟩
    have := HST.out 1
    rw [← hb.out x rfl] at this
    exact this
  · have HS : Hid (Calls Try.prog 18 #[.pointer (some ⟨o.p, 0, none⟩), .int .u64 (i : Int)] w fun e w' => e = .returned (.pointer (some ⟨o.p, 0, none⟩)) ∧ Upd o (putL (grow b (i + 1)) i (i + 1) 2) w w') := Lib.hid (by
      have e1 : putL (grow b (i + 1)) i (i + 1) 1 = putL (grow b (i + 1)) i (i + 1) 2 := by
        have hgl : i < (grow b (i + 1)).length := by rw [grow_len]; omega
        apply ext_getD (by rw [putL_len, putL_len])
        intro j hj
        rw [putL_one _ hgl, putL_one _ hgl]
        by_cases e : j = i
        · subst e
          rw [if_pos rfl, if_pos rfl, grow_get]
          simp [show b.length ≤ j by omega]
        · rw [if_neg e, if_neg e]
      have := bs_set o b i w h hr hi2
      rw [e1] at this
      exact this)
    obtain ⟨c0, c1, f0, f1⟩ := h.cells
    rw [hr.len] at c0
    have hge : ¬ (i : Int) < (b.length : Int) := by omega
    have hge2 : (b.length : Int) ≤ (i : Int) := by omega
    generalize b.length = n at *
    clear h hr
    unfold O.ptr
    go_enter Try.func20, Try.ntmps20
    go_wp2_with (go_at_call 18; refine HS.out.mono ?_)
    rintro e w1 rfl hu
    have HU := Lib.hid hu
    clear hu HS
    go_wp2_with fail
    go_ret
    exact ⟨rfl, HU.out⟩
end Go.Proofs.Ytgndpckcdageiaa.bs

/-
  Bitsets: Clear, SetTo (false).
-/
import Derived.Test.YtgndpckcdageiaaBsSet
import Derived.Test.YtgndpckcdageiaaBsSpecD
namespace Go.Proofs.Ytgndpckcdageiaa.bs
open Go.RowKit Go.Proofs.Ytgndpckcdageiaa.base Go.Proofs.Ytgndpckcdageiaa.heap Go.Proofs.Ytgndpckcdageiaa.bit
set_option linter.unusedVariables false

/-- word j is written -/
def O.store (o : O) (j x : Nat) : O := { o with ws := o.ws.set j x }
theorem O.ok.store {o : O} {j x : Nat} {w w' : World} {b : Nat} (ha : o.a = some ⟨b, 0, none⟩) (h : o.ok w) (hj : j < o.m) (hx : Lt64 x)
    (hw : w'.heap = (w.setCell ⟨b, j, none⟩ (.int .u64 (x : Int))).heap) : (o.store j x).ok w' := by
  have hne : b ≠ o.p := fun e => h.apart (by rw [ha, e]; exact rfl)
  refine ⟨?_, ?_, by show (List.set _ _ _).length = _; rw [List.length_set]; exact h.len, h.fits.set _ hx, h.apart, h.made⟩
  · rw [hw, Below.heap_setCell _ _ _ _ (Ne.symm hne)]; exact h.obj
  · have h2 := h.own.set ha j (.int .u64 (x : Int)) rfl (by omega)
    rw [U_set] at h2
    exact h2.of_heap hw
theorem O.only_store {o : O} {j x : Nat} {w : World} {b : Nat} (ha : o.a = some ⟨b, 0, none⟩) : Only o.foot w (w.setCell ⟨b, j, none⟩ (.int .u64 (x : Int))) :=
  (Only.refl o.foot w).setCell ⟨b, j, none⟩ _ (fun _ => .inr (by rw [ha]; exact rfl))

/-- a word without bit k -/
def clr (x k : Nat) : Nat := x &&& (18446744073709551615 - 2 ^ k)
theorem lt64_clr {x k : Nat} (h : Lt64 x) : Lt64 (clr x k) := lt64_and h
theorem clr_bit {x k j : Nat} (hk : k < 64) (hj : j < 64) : (clr x k).testBit j = (x.testBit j && decide (j ≠ k)) := by
  unfold clr
  rw [Nat.testBit_and, show (18446744073709551615 : Nat) = 2 ^ 64 - 1 from by decide, Nat.sub_sub, Nat.add_comm 1, Nat.testBit_two_pow_sub_succ (Nat.pow_lt_pow_right (by omega) hk), Nat.testBit_two_pow]
  by_cases h : k = j
  · subst h; simp
  · simp [h, Ne.symm h, hj]
theorem clr_pow {x k : Nat} (hx : Lt64 x) (hk : k < 64) : bits .andNot .u64 (x : Int) (2 ^ k % 18446744073709551616) = ((clr x k : Nat) : Int) := by
  rw [pow_nat k hk]; exact u64_andNot_nat x (2 ^ k) hx (lt64_pow hk)

theorem bit_clr (ws : List Nat) (i j : Nat) (hi : i / 64 < ws.length) : bit (ws.set (i / 64) (clr (ws.getD (i / 64) 0) (i % 64))) j = (bit ws j && decide (j ≠ i)) := by
  rw [bit_set _ _ _ _ hi]
  by_cases h : j / 64 = i / 64
  · rw [if_pos h, clr_bit (Nat.mod_lt _ (by omega)) (Nat.mod_lt _ (by omega))]
    unfold bit
    rw [h]
    congr 1
    by_cases h2 : j = i
    · subst h2; simp
    · have : j % 64 ≠ i % 64 := by omega
      simp [h2, this]
  · rw [if_neg h]
    have : j ≠ i := by intro e; subst e; exact h rfl
    simp [this]

theorem putL_bit (b : List Bool) (f t how i : Nat) : (putL b f t how).getD i false = if i < b.length then (if f ≤ i ∧ i < t then (how == 1 || (how == 2 && !b.getD i false)) else b.getD i false) else false := by
  by_cases h : i < b.length
  · rw [if_pos h, putL_get _ _ _ _ _ h]
  · rw [if_neg h]; simp [putL_len, Nat.le_of_not_lt h]

set_option maxHeartbeats 800000 in
theorem clear_raw (o : O) (i : Nat) (w : World) (b : Nat) (ha : o.a = some ⟨b, 0, none⟩) (h : o.ok w) (hi : i < o.n) (hm : i / 64 < o.m) (hi2 : i < 4611686018427387904) :
    Calls Try.prog 19 #[o.ptr, .int .u64 (i : Int)] w fun e w' => e = .returned o.ptr ∧
      ∃ m, w' = (w.setCell ⟨b, i / 64, none⟩ (.int .u64 ((clr (o.ws.getD (i / 64) 0) (i % 64) : Nat) : Int))).drewN m := by
  obtain ⟨b', ha', hp, hb, hne, c0, c1, f0, f1, hc, hf, hmc, hcap⟩ := h.facts
  rw [ha] at ha'
  cases ha'
  have cw := hc _ hm
  have fw := hf (i / 64)
  have hw := h.fits.at (i / 64)
  have hmi : (i : Int) / 64 < (o.m : Int) := by omega
  have ht : ((i : Int) / 64).toNat = i / 64 := by omega
  have hge : (0 : Int) ≤ (i : Int) / 64 := by omega
  clear hc hf
  have hb : Hid (∀ x : Nat, x = o.ws.getD (i / 64) 0 → bits .andNot .u64 (x : Int) (2 ^ (i % 64) % 18446744073709551616) = ((clr (o.ws.getD (i / 64) 0) (i % 64) : Nat) : Int)) := Lib.hid (fun x hx => by
    rw [hx]; exact clr_pow hw (Nat.mod_lt _ (by omega)))
  generalize hx : o.ws.getD (i / 64) 0 = x at *
  have HX := Lib.hid hx
  clear hx hw
  unfold O.ptr
  go_enter Try.func19, Try.ntmps19
  go_wp2
  refine wp_region_still_tail 13 (by kernel_rfl) (by kernel_rfl) ?_
  simp only [List.take_succ_cons, List.take_zero, List.drop_succ_cons, List.drop_zero]
  repeat still_step
  still_call (wordsIndex i hi2 _)
  repeat still_step
  refine wpStill_nil ?_
  go_wp2
  go_ret
  refine ⟨rfl, 1, ?_⟩
  rw [← hb.out x rfl]
  rfl

set_option maxHeartbeats 800000 in
/-- Clear: bit i is not set any more -/
theorem bs_clear (o : O) (b : List Bool) (i : Nat) (w : World) (h : o.ok w) (hr : o.rep b) (hi2 : i < 4611686018427387904) :
    Calls Try.prog 19 #[o.ptr, .int .u64 (i : Int)] w fun e w' => e = .returned o.ptr ∧ Upd o (putL b i (i + 1) 0) w w' := by
  have h1 := hr.len
  have h2 := hr.room
  by_cases hi : i < o.n
  · obtain ⟨x, ha, _⟩ := h.facts
    have hml : i / 64 < o.m := by omega
    refine (clear_raw o i w x ha h hi hml hi2).mono ?_
    rintro e w' ⟨rfl, m, rfl⟩
    refine ⟨rfl, o.store (i / 64) (clr (o.ws.getD (i / 64) 0) (i % 64)), rfl, h.store ha hml (lt64_clr (h.fits.at _)) rfl, ⟨by rw [putL_len]; exact h1, by rw [putL_len]; exact hr.fit, fun j => ?_⟩, (O.only_store ha).drewN m, fun k hk => .inl hk⟩
    show bit (o.ws.set _ _) j = _
    rw [bit_clr _ _ _ (by rw [h.len]; exact hml), hr.bits j, putL_bit]
    by_cases hj : j < b.length
    · rw [if_pos hj]
      by_cases hji : j = i
      · subst hji; rw [if_pos ⟨Nat.le_refl _, by omega⟩]; simp
      · rw [if_neg (by omega)]; simp [hji]
    · rw [if_neg hj]; simp [Nat.le_of_not_lt hj]
  · have hp : putL b i (i + 1) 0 = b := by
      apply ext_getD (putL_len _ _ _ _)
      intro j hj
      rw [putL_len] at hj
      rw [putL_get _ _ _ _ _ hj, if_neg (by omega)]
    rw [hp]
    obtain ⟨c0, c1, f0, f1⟩ := h.cells
    have H : Hid (Upd o b w w) := Lib.hid ⟨o, rfl, h, hr, Only.refl _ _, fun k hk => .inl hk⟩
    clear hp
    unfold O.ptr
    go_enter Try.func19, Try.ntmps19
    go_wp2
    go_ret
    exact ⟨rfl, H.out⟩

/-- said64, of a bitset whose pointer is known -/
theorem said64_at (o o' : O) (b : List Bool) (w : World) (hp : o'.p = o.p) (h : o'.ok w) (hr : o'.rep b) (hn : b.length ≤ 1048576) :
    Calls Try.prog 33 #[o.ptr] w (RetBits b w) := by
  have : o'.ptr = o.ptr := by unfold O.ptr; rw [hp]
  rw [← this]; exact said64 o' b w h hr hn

/-- the result's variable, and what is returned, behind a bitset that was made, changed and told -/
structure Told (w W : World) (r : Nat) (b : List Bool) (a : Option Addr) (m cap : Nat) (w3 : World) : Prop where
  res : w3.heap[r]? = some (.cells #[.int .u64 0, .slice none 0 0] 25 (0, 0))
  ret : RetBits b w (.returned (.agg #[.int .u64 (b.length : Int), .slice a m cap])) ((w3.setCell ⟨r, 0, none⟩ (.int .u64 (b.length : Int))).setCell ⟨r, 1, none⟩ (.slice a m cap))

theorem told_mk {w W w1 w2 w3 : World} {r : Nat} {b : List Bool} {a : Option Addr} {m cap : Nat} {S : Nat → Prop} (hW : Only (fun _ => False) w W) (hr : w.heap.size ≤ r) (hres : W.heap[r]? = some (.cells #[.int .u64 0, .slice none 0 0] 25 (0, 0)))
    (h1 : Only (fun _ => False) W w1) (hf : ∀ k, S k → W.heap.size ≤ k) (h2 : Only S w1 w2) (h3 : Only (fun _ => False) w2 w3) (hu : RU w3 a m cap (ones b)) (hfr : ∀ k, At a k → w2.heap.size ≤ k ∧ k < w3.heap.size) : Told w W r b a m cap w3 := by
  have hrW := lt_of_heap hres
  have hO2 : Only (fun _ => False) W w2 := h1.trans h2 (fun k hk hs => by have := hf k hs; omega)
  have hO3 : Only (fun _ => False) W w3 := hO2.trans h3 (fun _ _ f => f)
  refine ⟨hO3.obj hres id, a, m, cap, rfl, hu.keep (S := fun j => j = r) (((Only.refl (fun j => j = r) _).setCell _ _ (fun _ => rfl)).setCell _ _ (fun _ => rfl)) (fun k hk e => ?_),
    ((hW.trans hO3 (fun _ _ f => f)).setCell _ _ (fun h => ?_)).setCell _ _ (fun h => ?_), fun k hk => ?_⟩
  · have := hfr k hk
    have := hO2.size
    omega
  · have : r < w.heap.size := h
    omega
  · have : r < w.heap.size := h
    omega
  · have := hfr k hk
    have := hO2.size
    have := hW.size
    exact ⟨by omega, by simpa using (hfr k hk).2⟩
end Go.Proofs.Ytgndpckcdageiaa.bs

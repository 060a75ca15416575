/-
  FnBSMakes: the walk.
-/
import Derived.Test.YtjmgidedaodlpaaBsBLw
import Derived.Test.YtjmgidedaodlpaaBsImpl6
import Derived.Test.YtjmgidedaodlpaaBsPrev
namespace Go.Proofs.Ytjmgidedaodlpaa.walkFnBSMakes
open Go.RowKit Go.Proofs.Ytjmgidedaodlpaa.base Go.Proofs.Ytjmgidedaodlpaa.heap Go.Proofs.Ytjmgidedaodlpaa.bit Go.Proofs.Ytjmgidedaodlpaa.bs
set_option linter.unusedVariables false

theorem none_bv (k : Nat) (w : World) : BV w (.agg #[.int .u64 (k : Int), .slice none 0 0]) (List.replicate k false) := by
  have h1 : ones (List.replicate k false) = [] := by
    rw [List.eq_nil_iff_forall_not_mem]
    intro i hi
    have h2 := mem_ones.1 hi
    simp only [List.getD_eq_getElem?_getD, List.getElem?_replicate] at h2
    split at h2 <;> simp at h2
  refine ⟨none, 0, 0, by rw [List.length_replicate], ?_⟩
  rw [h1]
  exact ⟨Rd.nil _ _, rfl⟩
theorem new_k (k : Nat) (hk : k ≤ 1048576) (w : World) : Calls Try.prog 12 #[.int .u64 (k : Int)] w (fun e w' => ∃ a m cap, e = .returned (.agg #[.int .u64 (k : Int), .slice a m cap]) ∧ BV w' (.agg #[.int .u64 (k : Int), .slice a m cap]) (List.replicate k false) ∧ Same w w') := by
  have h := implNew (List.replicate k false) w (Lib.hid (by rw [List.length_replicate])) (by rw [List.length_replicate]; exact hk)
  rw [List.length_replicate] at h
  refine h.mono ?_
  rintro e w' ⟨a, m, cap, rfl, hu, hO, _⟩
  rw [List.length_replicate]
  exact ⟨a, m, cap, rfl, ⟨a, m, cap, by rw [List.length_replicate], hu⟩, hO⟩
theorem bit_out {l : List Nat} {i : Nat} (h : l.length ≤ i / 64) : bit l i = false := by
  unfold bit
  have : l.getD (i / 64) 0 = 0 := by simp [h]
  rw [this]; simp
theorem bits_all {l : List Nat} {n : Nat} (hl : l.length = n) (i : Nat) : bit l i = (bitsOf l (64 * n)).getD i false := by
  rw [bitsOf_get]
  by_cases h : i < 64 * n
  · rw [if_pos h]
  · rw [if_neg h]; exact bit_out (by omega)

theorem from_k (a : Option Addr) (n cap : Nat) (l : List Nat) (k : Nat) (b : List Bool) (w0 w : World) (hs : Same w0 w) (h : RU w a n cap l) (h0 : 0 < n) (hn : n ≤ 12) (hok : Ok l) (hk : k ≤ 64 * n) (hz : ∀ i, k ≤ i → bit l i = false) (hb : Hid (bitsOf l k = b)) :
    Calls Try.prog 15 #[.int .u64 (k : Int), .slice a n cap] w (FBits w0 b) := by
  have hl : b.length = k := by rw [← hb.out, bitsOf_len]
  have h1 := implFromWithLength a n cap l b w h h0 (by omega) hok (by omega) (by omega) (fun i => by
    rw [← hb.out, bitsOf_get]
    by_cases hi : i < k
    · rw [if_pos hi]
    · rw [if_neg hi]; exact hz i (by omega))
  rw [hl] at h1
  exact fbits hs h1
theorem bits_k (a : Option Addr) (n cap : Nat) (l : List Nat) (k : Nat) (b : List Bool) (w0 w : World) (hs : Same w0 w) (h : RU w a n cap l) (hn : n ≤ 12) (hok : Ok l) (hk : k ≤ 64 * n) (hb : Hid (bitsOf l k = b)) :
    Calls Try.prog 10 #[.agg #[.int .u64 (k : Int), .int .u64 0, .slice a n cap]] w (FBools w0 b) := by
  have h1 := blBits k 0 a n cap l w h hok hk (by omega)
  rw [hb.out] at h1
  exact fbools hs h1

set_option maxRecDepth 100000 in
set_option maxHeartbeats 3200000 in
theorem main (p : Nat) (a : Option Addr) (m cap : Nat) (l : List Nat) (w : World) (hr : RU w a m cap l) (hl : Ok l) (hm : m ≤ 2147483647) (hp : p < 65536) :
    Calls Try.prog 3 #[.int .u16 (p : Int), .slice a m cap] w fun e w' => e = .returned (.bool true) ∧ Below w.heap.size w w' := by
  obtain ⟨i, hi⟩ : ∃ i : Nat, p % 2001 = i := ⟨_, rfl⟩
  have hi1 : i < 2001 := by omega
  have HI : Hid ((p : Int) % 2001 = (i : Int)) := Lib.hid (by omega)
  obtain ⟨r, hr0⟩ : ∃ r : Nat, p % 64 = r := ⟨_, rfl⟩
  have hr1 : r < 64 := by omega
  have HR : Hid ((p : Int) % 64 = (r : Int)) := Lib.hid (by omega)
  clear hi hr0
  have HW := Lib.hid (blWords a m cap l w hr hl hm)
  clear hr hl
  go_enter Try.func3, Try.ntmps3
  go_wp2_with fail
  refine HW.out.mono ?_
  rintro e w1 ⟨a1, n, cap1, l1, rfl, hr1', hok1, h0, h12, hO1⟩
  have HRU : Hid (∀ wx, Same w1 wx → RU wx a1 n cap1 l1) := Lib.hid (fun wx hx => hr1'.keep hx (fun _ _ => id))
  have HOK := Lib.hid hok1
  have HO1 := Lib.hid hO1
  have HBL := Lib.hid (blBits (64 * n) 0 a1 n cap1 l1 w1 hr1' hok1 (Nat.le_refl _) (by omega))
  have HLen : Hid (l1.length = n) := Lib.hid hr1'.2
  have hd : (bitsOf l1 (64 * n)).length = 64 * n := bitsOf_len _ _
  have HBA := Lib.hid (bits_all HLen.out)
  generalize bitsOf l1 (64 * n) = d at *
  have HD := Lib.hid hd
  have hd1 : d.length ≤ 768 := by omega
  clear hr1' hok1 hO1 hd
  go_wp2_with fail
  refine HBL.out.mono ?_
  rintro e w2 ⟨a2, cap2, rfl, hb2, hO2, -⟩
  have HB2 : Hid (∀ wx, Same w2 wx → RB wx a2 d.length cap2 d) := Lib.hid (fun wx hx => hb2.keep hx (fun _ _ => id))
  have HO2 := Lib.hid hO2
  clear hb2 hO2
  go_wp2_with fail
  rw [HI.out]
  refine (new_k i (by omega) w2).mono ?_
  rintro e w3 ⟨a3, m3, cap3, rfl, hv3, hO3⟩
  go_wp2_with fail
  refine (bsSame_yes _ _ (List.replicate i false) w2 w3 hO3 hv3 (none_bv i w3) (by rw [List.length_replicate]; omega)).mono ?_
  rintro e w4 ⟨rfl, hO4⟩
  clear hv3 hO3
  have HO4 := Lib.hid hO4
  clear hO4
  go_wp2_with fail
  refine (fbits HO4.out (implFrom a1 n cap1 l1 d w4 (HRU.out _ (Same.trans HO2.out HO4.out)) h0 HOK.out (by omega) HD.out HBA.out)).mono ?_
  rintro e w5 ⟨a5, m5, cap5, rfl, hu5, hO5⟩
  go_wp2_with fail
  refine (fbits (Only.refl _ w5) (bsMake a2 cap2 d w5 (HB2.out _ hO5) (by omega))).mono ?_
  rintro e w6 ⟨a6, m6, cap6, rfl, hu6, hO6⟩
  go_wp2_with fail
  refine (bsSame_yes _ _ d w5 w6 hO6 (BV.mk (hu5.keep hO6 (fun _ _ => id))) (BV.mk hu6) (by omega)).mono ?_
  rintro e w7 ⟨rfl, hO7⟩
  have HO7 : Hid (Same w1 w7) := Lib.hid (Same.trans HO2.out (Same.trans hO5 hO7))
  clear hu5 hO5 hu6 hO6 hO7
  obtain ⟨k, hk⟩ : ∃ k : Nat, 64 * n - r = k := ⟨_, rfl⟩
  have HK : Hid ((d.length : Int) - (r : Int) = (k : Int)) := Lib.hid (by have := HD.out; omega)
  have hk1 : k ≤ 64 * n := by omega
  have hk2 : 0 < k := by omega
  have HE : Hid (Own 37 1 (w7.alloc (.cells #[] 37)) (some ⟨w7.heap.size, 0, none⟩) 0 0 []) := Lib.hid (Own.of_block (size := 1) (heap_alloc_new w7 _) 0 0 (Nat.le_refl _) (by unfold maxLen; omega) rfl (fun u hu => by simp at hu))
  have HSE : Hid (Same w1 (w7.alloc (.cells #[] 37))) := Lib.hid (Same.trans HO7.out ((Only.refl _ w7).alloc _))
  by_cases hr0 : r = 0
  · have HKM : Hid ((k : Int) % 64 = 0) := Lib.hid (by omega)
    go_wp2_with (at_builtin; refine wpList_append n (U l1) rfl _ _ _ _ rfl slWord rfl HE.out rfl ((HRU.out _ HSE.out).1.src Try.underlying23) (Nat.zero_add n) rfl (by unfold maxLen; omega) (by omega) ?_)
    intro a8 cap8 w8 hG
    have hOwn := hG.own
    have hne : a8 ≠ none := fun e => by have := (hG.nil e).2; omega
    have hO8 : Same w7 w8 := Only.trans ((Only.refl (fun _ => False) w7).alloc _) hG.only (fun j hj e => by have e : w7.heap.size = j := e; omega)
    have HO8 := Lib.hid hO8
    clear hG hO8
    rw [HR.out, HK.out]
    have HOwn := Lib.hid hOwn
    clear hOwn
    obtain ⟨b, hb⟩ : ∃ b, Hid (bitsOf l1 k = b) := ⟨_, Lib.hid rfl⟩
    have hbl : b.length = k := by rw [← hb.out, bitsOf_len]
    have hb7 : b.length ≤ 768 := by omega
    have HZ : Hid (∀ i, k ≤ i → bit l1 i = false) := Lib.hid (fun i hi => bit_out (by have := HLen.out; omega))
    have HRU2 : Hid (∀ wx, Same w8 wx → RU wx a8 n cap8 l1) := Lib.hid (fun wx hx => ⟨HOwn.out.rd.keep hx (fun _ _ => id), HLen.out⟩)
    have hkm := HKM.out
    clear hbl
    go_wp2_with fail
    refine (from_k a8 n cap8 l1 k b w8 w8 (Only.refl _ _) (HRU2.out _ (Only.refl _ _)) h0 h12 HOK.out hk1 HZ.out hb).mono ?_
    rintro e w9 ⟨a9, m9, cap9, rfl, hu9, hO9⟩
    have HU9 := Lib.hid hu9
    clear hu9
    go_wp2_with fail
    refine (bits_k a8 n cap8 l1 k b w9 w9 (Only.refl _ _) (HRU2.out _ hO9) h12 HOK.out hk1 hb).mono ?_
    rintro e w10 ⟨a10, cap10, rfl, hb10, hO10⟩
    go_wp2_with fail
    refine (fbits hO10 (bsMake a10 cap10 b w10 hb10 (by omega))).mono ?_
    rintro e w11 ⟨a11, m11, cap11, rfl, hu11, hO11⟩
    go_wp2_with fail
    refine (bsSame_yes _ _ b w9 w11 hO11 (BV.mk (HU9.out.keep hO11 (fun _ _ => id))) (BV.mk hu11) (by omega)).mono ?_
    rintro e w12 ⟨rfl, hO12⟩
    go_wp2_with fail
    go_ret
    exact ⟨rfl, Only.below (Same.trans HO1.out (Same.trans HO7.out (Same.trans HO8.out (Same.trans hO9 hO12)))) (Nat.le_refl _) (fun _ _ => id)⟩
  · have hr2 : 0 < r := by omega
    obtain ⟨tt, htt⟩ : ∃ tt : Nat, 64 - r = tt := ⟨_, rfl⟩
    have HKM : Hid ((k : Int) % 64 = (tt : Int)) := Lib.hid (by omega)
    have HKM2 : Hid (k = 64 * (n - 1) + tt) := Lib.hid (by omega)
    have htt1 : 0 < tt := by omega
    have htt2 : tt < 64 := by omega
    have hkm0 : ¬ (k : Int) % 64 = 0 := by omega
    clear htt
    go_wp2_with (at_builtin; refine wpList_append n (U l1) rfl _ _ _ _ rfl slWord rfl HE.out rfl ((HRU.out _ HSE.out).1.src Try.underlying23) (Nat.zero_add n) rfl (by unfold maxLen; omega) (by omega) ?_)
    intro a8 cap8 w8 hG
    have hOwn := hG.own
    have hne : a8 ≠ none := fun e => by have := (hG.nil e).2; omega
    have hO8 : Same w7 w8 := Only.trans ((Only.refl (fun _ => False) w7).alloc _) hG.only (fun j hj e => by have e : w7.heap.size = j := e; omega)
    have HO8 := Lib.hid hO8
    have HFR : Hid (∀ j, At a8 j → w7.heap.size ≤ j) := Lib.hid (fun j hj => by
      rcases hG.fresh j hj with f | f
      · have f : w7.heap.size = j := f
        omega
      · simp at f
        omega)
    clear hG hO8
    rw [HR.out, HK.out]
    rcases hOwn.alt with ⟨hn, _⟩ | ⟨b8, cur, rfl, hb8, hs8, ht8⟩
    · exact absurd hn hne
    obtain ⟨x, hx⟩ : ∃ x, l1.getD (n - 1) 0 = x := ⟨_, rfl⟩
    have hc : w8.cell? ⟨b8, n - 1, none⟩ = some (.int .u64 (x : Int)) := by
      obtain ⟨bb, hbb, _, hc⟩ := hOwn.at h0
      cases hbb
      have := hc (n - 1) _ (U_get l1 (n - 1) (by rw [HLen.out]; omega))
      rw [hx] at this
      simpa using this
    have hf := hOwn.frozen rfl (n - 1)
    have hlx : Lt64 x := by rw [← hx]; exact HOK.out.at (n - 1)
    have HOwn := Lib.hid hOwn
    have HM : Hid (bits .and .u64 (x : Int) (IntKind.u64.wrap (IntKind.u64.wrap (2 ^ (k % 64)) - 1)) = ((x % 2 ^ tt : Nat) : Int)) := Lib.hid (by
      have h1 : k % 64 = (tt - 1) + 1 := by have := HKM2.out; omega
      rw [h1, mask_to hlx (by omega), Nat.sub_add_cancel htt1])
    have HZ : Hid (∀ i, k ≤ i → bit (l1.set (n - 1) (x % 2 ^ tt)) i = false) := Lib.hid (fun i hi => by
      have hk3 := HKM2.out
      rw [bit_set _ _ _ _ (by rw [HLen.out]; omega)]
      by_cases hin : i / 64 = n - 1
      · rw [if_pos hin, Nat.testBit_mod_two_pow, decide_eq_false (by omega)]; rfl
      · rw [if_neg hin]; exact bit_out (by rw [HLen.out]; omega))
    have HOK2 : Hid (Ok (l1.set (n - 1) (x % 2 ^ tt))) := Lib.hid (HOK.out.set _ (Nat.lt_of_le_of_lt (Nat.mod_le _ _) hlx))
    have HX := Lib.hid hx
    have HLX := Lib.hid hlx
    clear hOwn hs8 ht8 hb8 hx hlx hne
    go_wp2_with fail
    rw [HM.out]
    have hO9' : Same w7 (w8.setCell ⟨b8, n - 1, none⟩ (.int .u64 ((x % 2 ^ tt : Nat) : Int))) := HO8.out.setCell _ _ (fun hh => by have := HFR.out b8 rfl; have hh : b8 < w7.heap.size := hh; omega)
    have hOwn9 := HOwn.out.set rfl (n - 1) (.int .u64 ((x % 2 ^ tt : Nat) : Int)) rfl (by omega)
    rw [U_set] at hOwn9
    have HO9' := Lib.hid hO9'
    have HOwn := Lib.hid hOwn9
    have HLen2 : Hid ((l1.set (n - 1) (x % 2 ^ tt)).length = n) := Lib.hid (by rw [List.length_set]; exact HLen.out)
    clear hO9' hOwn9 hc hf HM
    generalize l1.set (n - 1) (x % 2 ^ tt) = l2 at *
    generalize w8.setCell ⟨b8, n - 1, none⟩ (.int .u64 ((x % 2 ^ tt : Nat) : Int)) = W9 at *
    obtain ⟨b, hb⟩ : ∃ b, Hid (bitsOf l2 k = b) := ⟨_, Lib.hid rfl⟩
    have hbl : b.length = k := by rw [← hb.out, bitsOf_len]
    have hb7 : b.length ≤ 768 := by omega
    have HRU2 : Hid (∀ wx, Same W9 wx → RU wx (some ⟨b8, 0, none⟩) n cap8 l2) := Lib.hid (fun wx hx => ⟨HOwn.out.rd.keep hx (fun _ _ => id), HLen2.out⟩)
    clear hbl
    refine (from_k (some ⟨b8, 0, none⟩) n cap8 l2 k b W9 W9 (Only.refl _ _) (HRU2.out _ (Only.refl _ _)) h0 h12 HOK2.out hk1 HZ.out hb).mono ?_
    rintro e w9 ⟨a9, m9, cap9, rfl, hu9, hO9⟩
    have HU9 := Lib.hid hu9
    clear hu9
    go_wp2_with fail
    refine (bits_k (some ⟨b8, 0, none⟩) n cap8 l2 k b w9 w9 (Only.refl _ _) (HRU2.out _ hO9) h12 HOK2.out hk1 hb).mono ?_
    rintro e w10 ⟨a10, cap10, rfl, hb10, hO10⟩
    go_wp2_with fail
    refine (fbits hO10 (bsMake a10 cap10 b w10 hb10 (by omega))).mono ?_
    rintro e w11 ⟨a11, m11, cap11, rfl, hu11, hO11⟩
    go_wp2_with fail
    refine (bsSame_yes _ _ b w9 w11 hO11 (BV.mk (HU9.out.keep hO11 (fun _ _ => id))) (BV.mk hu11) (by omega)).mono ?_
    rintro e w12 ⟨rfl, hO12⟩
    go_wp2_with fail
    go_ret
    exact ⟨rfl, Only.below (Same.trans HO1.out (Same.trans HO7.out (Same.trans HO9'.out (Same.trans hO9 hO12)))) (Nat.le_refl _) (fun _ _ => id)⟩

theorem walk (W : World) (v0 v1 : Value) (r0 : Reads Try.prog W 22 v0) (r1 : Reads Try.prog W 23 v1) :
    Calls Try.prog 3 #[v0, v1] W fun e w' => e = .returned (.bool true) ∧ Below W.heap.size W w' := by
  obtain ⟨p, rfl, hp⟩ := r0.int Try.underlying22
  have hp' := wf_u16 hp
  obtain ⟨P, rfl⟩ := Int.eq_ofNat_of_zero_le hp'.1
  obtain ⟨a, m, cap, zs, rfl, hr⟩ := r1.ints Try.underlying23 Try.underlying37 (by kernel_rfl)
  by_cases hm : m ≤ 2147483647
  · obtain ⟨l, hl, hok⟩ := row_words hr
    exact main P a m cap l W hl hok hm (by omega)
  · have hle := hr.le
    have hgt : (2147483647 : Int) < (m : Int) := by omega
    clear r0 r1 hr hp hp'
    go_enter Try.func3, Try.ntmps3
    go_wp2_with fail
    go_ret
    exact ⟨rfl, Only.below (Only.refl (fun _ => False) W) (Nat.le_refl _) (fun _ _ => id)⟩
end Go.Proofs.Ytjmgidedaodlpaa.walkFnBSMakes

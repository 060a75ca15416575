/-
  FnBLEqual: the walk. Two filters are equal just if their sizes, their numbers of hash functions and their bits are.
-/
import Derived.Test.YtpiajkabikbdnaaBlEq
namespace Go.Proofs.Ytpiajkabikbdnaa.walkFnBLEqual
open Go.RowKit Go.Proofs.Ytpiajkabikbdnaa.base Go.Proofs.Ytpiajkabikbdnaa.heap Go.Proofs.Ytpiajkabikbdnaa.bit Go.Proofs.Ytpiajkabikbdnaa.bs
set_option linter.unusedVariables false

theorem blSame_any (M K k : Nat) (a : Option Addr) (n cap : Nat) (l : List Nat) (a' : Option Addr) (cap' : Nat) (b : List Bool) (w : World) (h : RU w a n cap l) (hok : Ok l) (hM : M ≤ 64 * n) (hn : n ≤ 16384) (hb : RB w a' b.length cap' b) (hbl : b.length ≤ 1048576) :
    Calls Try.prog 14 #[.agg #[.int .u64 (M : Int), .int .u64 (K : Int), .slice a n cap], .int .u64 (k : Int), .slice a' b.length cap'] w (FV w (.bool (decide (M = b.length ∧ K = k ∧ bitsOf l b.length = b)))) := by
  by_cases h1 : M = b.length
  · subst h1
    by_cases h2 : K = k
    · subst h2
      have := blSame_b b K a n cap l a' cap' w h hok hM hn hb
      rwa [show decide (b.length = b.length ∧ K = K ∧ bitsOf l b.length = b) = decide (bitsOf l b.length = b) by simp]
    · have := blSame_k b.length K k a n cap a' cap' w h2 h.1.bound (by omega)
      rwa [show decide (b.length = b.length ∧ K = k ∧ bitsOf l b.length = b) = false by simp [h2]]
  · have := blSame_m M K k a n cap a' b.length cap' w h1 h.1.bound hbl (by omega)
    rwa [show decide (M = b.length ∧ K = k ∧ bitsOf l b.length = b) = false by simp [h1]]

theorem sameFilt_eq (M K n : Nat) (l : List Nat) (M' K' n' : Nat) (l' : List Nat) (hn : n = (M + 63) / 64) (hn' : n' = (M' + 63) / 64) (hz : ∀ i, M ≤ i → bit l i = false) (hz' : ∀ i, M' ≤ i → bit l' i = false) :
    sameFilt M K n l M' K' n' l' = decide (M' = M ∧ K' = K ∧ bitsOf l' M = bitsOf l M) := by
  unfold sameFilt
  rw [decide_eq_decide]
  constructor
  · rintro ⟨rfl, rfl, h⟩
    refine ⟨rfl, rfl, ?_⟩
    refine ext_getD (by simp [bitsOf_len]) (fun i hi => ?_)
    rw [bitsOf_len] at hi
    rw [bitsOf_get, bitsOf_get, if_pos hi, if_pos hi]
    have := congrArg (fun x => x.getD i false) h
    simp only [bitsOf_get] at this
    rw [if_pos (by omega), if_pos (by omega)] at this
    exact this.symm
  · rintro ⟨rfl, rfl, h⟩
    refine ⟨rfl, rfl, ?_⟩
    subst hn
    subst hn'
    refine ext_getD (by simp [bitsOf_len]) (fun i hi => ?_)
    rw [bitsOf_len] at hi
    rw [bitsOf_get, bitsOf_get, if_pos hi, if_pos hi]
    by_cases hi2 : i < M'
    · have := congrArg (fun x => x.getD i false) h
      simp only [bitsOf_get] at this
      rw [if_pos hi2, if_pos hi2] at this
      exact this.symm
    · rw [hz i (by omega), hz' i (by omega)]

set_option maxRecDepth 100000 in
set_option maxHeartbeats 1600000 in
theorem main_false (p p' q q' : Nat) (a : Option Addr) (n cap : Nat) (l : List Nat) (a' : Option Addr) (n' cap' : Nat) (l' : List Nat) (w : World) (h : RU w a n cap l) (hok : Ok l) (hn : n ≤ 2147483647) (h' : RU w a' n' cap' l') (hok' : Ok l') (hn' : n' ≤ 2147483647) (hp : p < 65536) (hp' : p' < 65536) (hq : q < 256) (hq' : q' < 256) :
    Calls Try.prog 5 #[.int .u16 (p : Int), .int .u16 (p' : Int), .int .u8 (q : Int), .int .u8 (q' : Int), .slice a n cap, .slice a' n' cap', .bool false] w fun e w' => e = .returned (.bool true) ∧ Below w.heap.size w w' := by
  have HF := Lib.hid (blFilter p q a n cap l w h hok hn hp hq)
  have HG : Hid (∀ wx, Same w wx → Calls Try.prog 9 #[.int .u16 (p' : Int), .int .u8 (q' : Int), .slice a' n' cap'] wx (FSomeF (1 + p' % 700) (1 + q' % 8) wx)) := Lib.hid (fun wx hx => blFilter p' q' a' n' cap' l' wx (h'.keep hx (fun _ _ => id)) hok' hn' hp' hq')
  have HA : Hid (∀ wx, Same w wx → Calls Try.prog 9 #[.int .u16 (p : Int), .int .u8 (q' : Int), .slice a n cap] wx (FSomeF (1 + p % 700) (1 + q' % 8) wx)) := Lib.hid (fun wx hx => blFilter p q' a n cap l wx (h.keep hx (fun _ _ => id)) hok hn hp hq')
  have hbd := h.1.bound
  have hbd' := h'.1.bound
  clear h hok h' hok'
  obtain ⟨M, hM⟩ : ∃ M, 1 + p % 700 = M := ⟨_, rfl⟩
  obtain ⟨K, hK⟩ : ∃ K, 1 + q % 8 = K := ⟨_, rfl⟩
  obtain ⟨MG, hMG⟩ : ∃ MG, 1 + p' % 700 = MG := ⟨_, rfl⟩
  obtain ⟨K', hK'⟩ : ∃ K', 1 + q' % 8 = K' := ⟨_, rfl⟩
  rw [hM, hK] at HF
  rw [hMG, hK'] at HG
  rw [hM, hK'] at HA
  have hM1 : 1 ≤ M := by omega
  have hM2 : M ≤ 700 := by omega
  have hM1' : 1 ≤ MG := by omega
  have hM2' : MG ≤ 700 := by omega
  clear hM hK hMG hK'
  go_enter Try.func5, Try.ntmps5
  go_wp2_with fail
  refine HF.out.mono ?_
  rintro e w1 ⟨a1, n1, cap1, l1, rfl, hu1, hok1, hn1, hz1, hO1, hfr1⟩
  have HU1 : Hid (∀ wx, Same w1 wx → RU wx a1 n1 cap1 l1) := Lib.hid (fun wx hx => hu1.keep hx (fun _ _ => id))
  have HOK1 := Lib.hid hok1
  have HN1 := Lib.hid hn1
  have HZ1 := Lib.hid hz1
  have HO1 := Lib.hid hO1
  have hx1 : 0 < n1 ∧ n1 ≤ 16 ∧ M ≤ 64 * n1 := by omega
  clear hu1 hok1 hn1 hz1 hO1 hfr1
  go_wp2_with fail
  obtain ⟨W1, hW1, hS1, hB1, hk1⟩ := newBlock w1 #[.int .u64 (M : Int), .int .u64 (K : Int), .slice a1 n1 cap1] 26
  rw [← hW1]
  refine (HG.out W1 (Same.trans HO1.out hS1)).mono ?_
  rintro e w2 ⟨a2, n2, cap2, l2, rfl, hu2, hok2, hn2, hz2, hO2, hfr2⟩
  have HU2 : Hid (∀ wx, Same w2 wx → RU wx a2 n2 cap2 l2) := Lib.hid (fun wx hx => hu2.keep hx (fun _ _ => id))
  have HOK2 := Lib.hid hok2
  have HN2 := Lib.hid hn2
  have HZ2 := Lib.hid hz2
  have hx2 : 0 < n2 ∧ n2 ≤ 16 ∧ MG ≤ 64 * n2 := by omega
  have hsz := hO2.size
  rw [hk1] at hsz
  have HW1 := Lib.hid (Same.trans hS1 hO2)
  have HB1 := Lib.hid (still hO2 hB1)
  clear hu2 hok2 hn2 hz2 hfr2 hW1 hS1 hB1 hk1 hO2
  go_wp2_with fail
  obtain ⟨W2, hW2, hS2, hB2, hk2⟩ := newBlock w2 #[.int .u64 (MG : Int), .int .u64 (K' : Int), .slice a2 n2 cap2] 26
  rw [← hW2]
  have hSS := hS2
  have hBW := hB2
  have HU3 : Hid (∀ wx, Same W2 wx → RU wx a2 n2 cap2 l2) := Lib.hid (fun wx hx => HU2.out wx (Same.trans hS2 hx))
  clear hS2 hB2
  have HK : Hid (∀ wx, Same W2 wx → (wx.cell? ⟨w1.heap.size, 0, none⟩ = some (.int .u64 (M : Int)) ∧ wx.cell? ⟨w1.heap.size, 1, none⟩ = some (.int .u64 (K : Int)) ∧ wx.cell? ⟨w1.heap.size, 2, none⟩ = some (.slice a1 n1 cap1)) ∧ (wx.cell? ⟨w2.heap.size, 0, none⟩ = some (.int .u64 (MG : Int)) ∧ wx.cell? ⟨w2.heap.size, 1, none⟩ = some (.int .u64 (K' : Int)) ∧ wx.cell? ⟨w2.heap.size, 2, none⟩ = some (.slice a2 n2 cap2))) := Lib.hid (fun wx hx => by
    have h1 := still (Same.trans hSS hx) HB1.out
    have h2 := still hx hBW
    exact ⟨⟨block_cell h1 rfl, block_cell h1 rfl, block_cell h1 rfl⟩, ⟨block_cell h2 rfl, block_cell h2 rfl, block_cell h2 rfl⟩⟩)
  obtain ⟨⟨d0, d1, d2⟩, ⟨d3, d4, d5⟩⟩ := HK.out W2 (Only.refl _ _)
  have HS : Hid (Same w W2) := Lib.hid (Same.trans HO1.out (Same.trans HW1.out hSS))
  have HU1 : Hid (∀ wx, Same W2 wx → RU wx a1 n1 cap1 l1) := Lib.hid (fun wx hx => HU1.out wx (Same.trans HW1.out (Same.trans hSS hx)))
  obtain ⟨res, hres⟩ : ∃ res, sameFilt M K n1 l1 MG K' n2 l2 = res := ⟨_, rfl⟩
  have HEQ : Hid (∀ w0 wx, Same W2 w0 → Same w0 wx → Calls Try.prog 17 #[.agg #[.int .u64 (M : Int), .int .u64 (K : Int), .slice a1 n1 cap1], .agg #[.int .u64 (MG : Int), .int .u64 (K' : Int), .slice a2 n2 cap2]] wx (FV w0 (.bool res))) := Lib.hid (fun w0 wx h1 h2 => by
    have := implBLEqual M K a1 n1 cap1 l1 MG K' a2 n2 cap2 l2 wx (HU1.out _ (Same.trans h1 h2)) HOK1.out hx1.1 (by omega) (HU3.out _ (Same.trans h1 h2)) HOK2.out hx2.1 (by omega)
    rw [hres] at this
    exact this.mono fun e w' ⟨he, hO⟩ => ⟨he, Same.trans h2 hO⟩)
  have HBB : Hid (∀ w0 wx, Same W2 w0 → Same w0 wx → Calls Try.prog 12 #[.agg #[.int .u64 (M : Int), .int .u64 (K : Int), .slice a1 n1 cap1]] wx (FBools w0 (bitsOf l1 M))) := Lib.hid (fun w0 wx h1 h2 => fbools h2 (blBits M K a1 n1 cap1 l1 wx (HU1.out _ (Same.trans h1 h2)) HOK1.out (by omega) (by omega)))
  have HSM : Hid (∀ w0 wx a0 c0, Same W2 w0 → Same w0 wx → RB wx a0 (bitsOf l1 M).length c0 (bitsOf l1 M) → Calls Try.prog 14 #[.agg #[.int .u64 (MG : Int), .int .u64 (K' : Int), .slice a2 n2 cap2], .int .u64 (K : Int), .slice a0 (bitsOf l1 M).length c0] wx (FV w0 (.bool res))) := Lib.hid (fun w0 wx a0 c0 h1 h2 hb => by
    have := blSame_any MG K' K a2 n2 cap2 l2 a0 c0 (bitsOf l1 M) wx (HU3.out _ (Same.trans h1 h2)) HOK2.out (by omega) (by omega) hb (by rw [bitsOf_len]; omega)
    rw [show decide (MG = (bitsOf l1 M).length ∧ K' = K ∧ bitsOf l2 (bitsOf l1 M).length = bitsOf l1 M) = res from by
      rw [bitsOf_len, ← hres]
      exact (sameFilt_eq M K n1 l1 MG K' n2 l2 HN1.out HN2.out HZ1.out HZ2.out).symm] at this
    exact this.mono fun e w' ⟨he, hO⟩ => ⟨he, Same.trans h2 hO⟩)
  clear hW2 hk2 hSS hBW hres
  generalize bitsOf l1 M = d at *
  go_region_held3 (fun wx => (wx.cell? ⟨w1.heap.size, 0, none⟩ = some (.int .u64 (M : Int)) ∧ wx.cell? ⟨w1.heap.size, 1, none⟩ = some (.int .u64 (K : Int)) ∧ wx.cell? ⟨w1.heap.size, 2, none⟩ = some (.slice a1 n1 cap1)) ∧ (wx.cell? ⟨w2.heap.size, 0, none⟩ = some (.int .u64 (MG : Int)) ∧ wx.cell? ⟨w2.heap.size, 1, none⟩ = some (.int .u64 (K' : Int)) ∧ wx.cell? ⟨w2.heap.size, 2, none⟩ = some (.slice a2 n2 cap2)))
    (first | go_keep | (exact HK.out _ (Same.trans hO4 (Same.trans hO5 hO6))) | (exact HK.out _ (Same.trans hO4 hO5)) | (exact HK.out _ hO4))
    (first | ((go_at_call 17; (with_reducible refine (HEQ.out W2 _ (Only.refl _ _) (by exact (Only.refl _ W2).drew)).mono ?_); rintro e w4 ⟨rfl, hO4⟩)) | ((go_at_call 12; (with_reducible refine (HBB.out w4 _ hO4 (Only.refl _ _)).mono ?_); rintro e w5 ⟨a5, c5, rfl, hb5, hO5⟩)) | ((go_at_call 14; (with_reducible refine (HSM.out w5 _ a5 c5 (Same.trans hO4 hO5) (Only.refl _ _) hb5).mono ?_); rintro e w6 ⟨rfl, hO6⟩)))
  all_goals
    go_wp2
    go_ret
    exact ⟨by simp, Only.below (Same.trans HS.out (Same.trans hO4 (Same.trans hO5 hO6))) (Nat.le_refl _) (fun _ _ => id)⟩

set_option maxRecDepth 100000 in
set_option maxHeartbeats 1600000 in
theorem main_true (p p' q q' : Nat) (a : Option Addr) (n cap : Nat) (l : List Nat) (a' : Option Addr) (n' cap' : Nat) (l' : List Nat) (w : World) (h : RU w a n cap l) (hok : Ok l) (hn : n ≤ 2147483647) (h' : RU w a' n' cap' l') (hok' : Ok l') (hn' : n' ≤ 2147483647) (hp : p < 65536) (hp' : p' < 65536) (hq : q < 256) (hq' : q' < 256) :
    Calls Try.prog 5 #[.int .u16 (p : Int), .int .u16 (p' : Int), .int .u8 (q : Int), .int .u8 (q' : Int), .slice a n cap, .slice a' n' cap', .bool true] w fun e w' => e = .returned (.bool true) ∧ Below w.heap.size w w' := by
  have HF := Lib.hid (blFilter p q a n cap l w h hok hn hp hq)
  have HG : Hid (∀ wx, Same w wx → Calls Try.prog 9 #[.int .u16 (p' : Int), .int .u8 (q' : Int), .slice a' n' cap'] wx (FSomeF (1 + p' % 700) (1 + q' % 8) wx)) := Lib.hid (fun wx hx => blFilter p' q' a' n' cap' l' wx (h'.keep hx (fun _ _ => id)) hok' hn' hp' hq')
  have HA : Hid (∀ wx, Same w wx → Calls Try.prog 9 #[.int .u16 (p : Int), .int .u8 (q' : Int), .slice a n cap] wx (FSomeF (1 + p % 700) (1 + q' % 8) wx)) := Lib.hid (fun wx hx => blFilter p q' a n cap l wx (h.keep hx (fun _ _ => id)) hok hn hp hq')
  have hbd := h.1.bound
  have hbd' := h'.1.bound
  clear h hok h' hok'
  obtain ⟨M, hM⟩ : ∃ M, 1 + p % 700 = M := ⟨_, rfl⟩
  obtain ⟨K, hK⟩ : ∃ K, 1 + q % 8 = K := ⟨_, rfl⟩
  obtain ⟨MG, hMG⟩ : ∃ MG, 1 + p' % 700 = MG := ⟨_, rfl⟩
  obtain ⟨K', hK'⟩ : ∃ K', 1 + q' % 8 = K' := ⟨_, rfl⟩
  rw [hM, hK] at HF
  rw [hMG, hK'] at HG
  rw [hM, hK'] at HA
  have hM1 : 1 ≤ M := by omega
  have hM2 : M ≤ 700 := by omega
  have hM1' : 1 ≤ MG := by omega
  have hM2' : MG ≤ 700 := by omega
  clear hM hK hMG hK'
  go_enter Try.func5, Try.ntmps5
  go_wp2_with fail
  refine HF.out.mono ?_
  rintro e w1 ⟨a1, n1, cap1, l1, rfl, hu1, hok1, hn1, hz1, hO1, hfr1⟩
  have HU1 : Hid (∀ wx, Same w1 wx → RU wx a1 n1 cap1 l1) := Lib.hid (fun wx hx => hu1.keep hx (fun _ _ => id))
  have HOK1 := Lib.hid hok1
  have HN1 := Lib.hid hn1
  have HZ1 := Lib.hid hz1
  have HO1 := Lib.hid hO1
  have hx1 : 0 < n1 ∧ n1 ≤ 16 ∧ M ≤ 64 * n1 := by omega
  clear hu1 hok1 hn1 hz1 hO1 hfr1
  go_wp2_with fail
  obtain ⟨W1, hW1, hS1, hB1, hk1⟩ := newBlock w1 #[.int .u64 (M : Int), .int .u64 (K : Int), .slice a1 n1 cap1] 26
  rw [← hW1]
  refine (HG.out W1 (Same.trans HO1.out hS1)).mono ?_
  rintro e w2 ⟨a2, n2, cap2, l2, rfl, hu2, hok2, hn2, hz2, hO2, hfr2⟩
  have HU2 : Hid (∀ wx, Same w2 wx → RU wx a2 n2 cap2 l2) := Lib.hid (fun wx hx => hu2.keep hx (fun _ _ => id))
  have HOK2 := Lib.hid hok2
  have HN2 := Lib.hid hn2
  have HZ2 := Lib.hid hz2
  have hx2 : 0 < n2 ∧ n2 ≤ 16 ∧ MG ≤ 64 * n2 := by omega
  have hsz := hO2.size
  rw [hk1] at hsz
  have HW1 := Lib.hid (Same.trans hS1 hO2)
  have HB1 := Lib.hid (still hO2 hB1)
  clear hu2 hok2 hn2 hz2 hfr2 hW1 hS1 hB1 hk1 hO2
  go_wp2_with fail
  obtain ⟨W2, hW2, hS2, hB2, hk2⟩ := newBlock w2 #[.int .u64 (MG : Int), .int .u64 (K' : Int), .slice a2 n2 cap2] 26
  rw [← hW2]
  refine (HA.out W2 (Same.trans HO1.out (Same.trans HW1.out hS2))).mono ?_
  rintro e w3 ⟨a3, n3, cap3, l3, rfl, hu3, hok3, hn3, hz3, hO3, hfr3⟩
  have hs3 := still hO3 hB2
  have HU3 := Lib.hid hu3
  have HF3 := Lib.hid hfr3
  have HOK3 := Lib.hid hok3
  have HN3 := Lib.hid hn3
  have HZ3 := Lib.hid hz3
  have HO3 := Lib.hid hO3
  have hx3 : 0 < n3 ∧ n3 ≤ 16 ∧ M ≤ 64 * n3 := by omega
  clear hu3 hok3 hn3 hz3 hO3 hfr3
  obtain ⟨b0, b1, b2, g0, g1, g2⟩ : w3.cell? ⟨w2.heap.size, 0, none⟩ = some (.int .u64 (MG : Int)) ∧ w3.cell? ⟨w2.heap.size, 1, none⟩ = some (.int .u64 (K' : Int)) ∧ w3.cell? ⟨w2.heap.size, 2, none⟩ = some (.slice a2 n2 cap2) ∧ w3.frozen? ⟨w2.heap.size, 0, none⟩ = false ∧ w3.frozen? ⟨w2.heap.size, 1, none⟩ = false ∧ w3.frozen? ⟨w2.heap.size, 2, none⟩ = false :=
    ⟨block_cell hs3 rfl, block_cell hs3 rfl, block_cell hs3 rfl, block_free hs3, block_free hs3, block_free hs3⟩
  go_wp2_with fail
  obtain ⟨W, hW⟩ : ∃ W, W = ((w3.setCell ⟨w2.heap.size, 0, none⟩ (.int .u64 (M : Int))).setCell ⟨w2.heap.size, 1, none⟩ (.int .u64 (K' : Int))).setCell ⟨w2.heap.size, 2, none⟩ (.slice a3 n3 cap3) := ⟨_, rfl⟩
  rw [← hW]
  have hSW : Only (fun j => j = w2.heap.size) w3 W := by
    rw [hW]
    exact (((Only.refl (fun j => j = w2.heap.size) w3).setCell _ _ (fun _ => rfl)).setCell _ _ (fun _ => rfl)).setCell _ _ (fun _ => rfl)
  have hBW : W.heap[w2.heap.size]? = some (.cells #[.int .u64 (M : Int), .int .u64 (K' : Int), .slice a3 n3 cap3] 26 (0, 0)) := by
    rw [hW]
    exact setCell_heap (setCell_heap (setCell_heap hs3 0 _) 1 _) 2 _
  have hSS : Same w2 W := Only.trans (Same.trans hS2 HO3.out) hSW (fun k hk e => by omega)
  have HU3 : Hid (∀ wx, Same W wx → RU wx a3 n3 cap3 l3) := Lib.hid (fun wx hx => (HU3.out.keep hSW (fun k hk e => by
    have := HF3.out k hk
    omega)).keep hx (fun _ _ => id))
  clear hs3 b0 b1 b2 g0 g1 g2 hSW hW hS2 hB2
  have HK : Hid (∀ wx, Same W wx → (wx.cell? ⟨w1.heap.size, 0, none⟩ = some (.int .u64 (M : Int)) ∧ wx.cell? ⟨w1.heap.size, 1, none⟩ = some (.int .u64 (K : Int)) ∧ wx.cell? ⟨w1.heap.size, 2, none⟩ = some (.slice a1 n1 cap1)) ∧ (wx.cell? ⟨w2.heap.size, 0, none⟩ = some (.int .u64 (M : Int)) ∧ wx.cell? ⟨w2.heap.size, 1, none⟩ = some (.int .u64 (K' : Int)) ∧ wx.cell? ⟨w2.heap.size, 2, none⟩ = some (.slice a3 n3 cap3))) := Lib.hid (fun wx hx => by
    have h1 := still (Same.trans hSS hx) HB1.out
    have h2 := still hx hBW
    exact ⟨⟨block_cell h1 rfl, block_cell h1 rfl, block_cell h1 rfl⟩, ⟨block_cell h2 rfl, block_cell h2 rfl, block_cell h2 rfl⟩⟩)
  obtain ⟨⟨d0, d1, d2⟩, ⟨d3, d4, d5⟩⟩ := HK.out W (Only.refl _ _)
  have HS : Hid (Same w W) := Lib.hid (Same.trans HO1.out (Same.trans HW1.out hSS))
  have HU1 : Hid (∀ wx, Same W wx → RU wx a1 n1 cap1 l1) := Lib.hid (fun wx hx => HU1.out wx (Same.trans HW1.out (Same.trans hSS hx)))
  obtain ⟨res, hres⟩ : ∃ res, sameFilt M K n1 l1 M K' n3 l3 = res := ⟨_, rfl⟩
  have HEQ : Hid (∀ w0 wx, Same W w0 → Same w0 wx → Calls Try.prog 17 #[.agg #[.int .u64 (M : Int), .int .u64 (K : Int), .slice a1 n1 cap1], .agg #[.int .u64 (M : Int), .int .u64 (K' : Int), .slice a3 n3 cap3]] wx (FV w0 (.bool res))) := Lib.hid (fun w0 wx h1 h2 => by
    have := implBLEqual M K a1 n1 cap1 l1 M K' a3 n3 cap3 l3 wx (HU1.out _ (Same.trans h1 h2)) HOK1.out hx1.1 (by omega) (HU3.out _ (Same.trans h1 h2)) HOK3.out hx3.1 (by omega)
    rw [hres] at this
    exact this.mono fun e w' ⟨he, hO⟩ => ⟨he, Same.trans h2 hO⟩)
  have HBB : Hid (∀ w0 wx, Same W w0 → Same w0 wx → Calls Try.prog 12 #[.agg #[.int .u64 (M : Int), .int .u64 (K : Int), .slice a1 n1 cap1]] wx (FBools w0 (bitsOf l1 M))) := Lib.hid (fun w0 wx h1 h2 => fbools h2 (blBits M K a1 n1 cap1 l1 wx (HU1.out _ (Same.trans h1 h2)) HOK1.out (by omega) (by omega)))
  have HSM : Hid (∀ w0 wx a0 c0, Same W w0 → Same w0 wx → RB wx a0 (bitsOf l1 M).length c0 (bitsOf l1 M) → Calls Try.prog 14 #[.agg #[.int .u64 (M : Int), .int .u64 (K' : Int), .slice a3 n3 cap3], .int .u64 (K : Int), .slice a0 (bitsOf l1 M).length c0] wx (FV w0 (.bool res))) := Lib.hid (fun w0 wx a0 c0 h1 h2 hb => by
    have := blSame_any M K' K a3 n3 cap3 l3 a0 c0 (bitsOf l1 M) wx (HU3.out _ (Same.trans h1 h2)) HOK3.out (by omega) (by omega) hb (by rw [bitsOf_len]; omega)
    rw [show decide (M = (bitsOf l1 M).length ∧ K' = K ∧ bitsOf l3 (bitsOf l1 M).length = bitsOf l1 M) = res from by
      rw [bitsOf_len, ← hres]
      exact (sameFilt_eq M K n1 l1 M K' n3 l3 HN1.out HN3.out HZ1.out HZ3.out).symm] at this
    exact this.mono fun e w' ⟨he, hO⟩ => ⟨he, Same.trans h2 hO⟩)
  clear hW2 hk2 hSS hBW hres
  generalize bitsOf l1 M = d at *
  go_region_held3 (fun wx => (wx.cell? ⟨w1.heap.size, 0, none⟩ = some (.int .u64 (M : Int)) ∧ wx.cell? ⟨w1.heap.size, 1, none⟩ = some (.int .u64 (K : Int)) ∧ wx.cell? ⟨w1.heap.size, 2, none⟩ = some (.slice a1 n1 cap1)) ∧ (wx.cell? ⟨w2.heap.size, 0, none⟩ = some (.int .u64 (M : Int)) ∧ wx.cell? ⟨w2.heap.size, 1, none⟩ = some (.int .u64 (K' : Int)) ∧ wx.cell? ⟨w2.heap.size, 2, none⟩ = some (.slice a3 n3 cap3)))
    (first | go_keep | (exact HK.out _ (Same.trans hO4 (Same.trans hO5 hO6))) | (exact HK.out _ (Same.trans hO4 hO5)) | (exact HK.out _ hO4))
    (first | ((go_at_call 17; (with_reducible refine (HEQ.out W _ (Only.refl _ _) (by exact (Only.refl _ W).drew)).mono ?_); rintro e w4 ⟨rfl, hO4⟩)) | ((go_at_call 12; (with_reducible refine (HBB.out w4 _ hO4 (Only.refl _ _)).mono ?_); rintro e w5 ⟨a5, c5, rfl, hb5, hO5⟩)) | ((go_at_call 14; (with_reducible refine (HSM.out w5 _ a5 c5 (Same.trans hO4 hO5) (Only.refl _ _) hb5).mono ?_); rintro e w6 ⟨rfl, hO6⟩)))
  all_goals
    go_wp2
    go_ret
    exact ⟨by simp, Only.below (Same.trans HS.out (Same.trans hO4 (Same.trans hO5 hO6))) (Nat.le_refl _) (fun _ _ => id)⟩

theorem walk (W : World) (v0 v1 v2 v3 v4 v5 v6 : Value) (r0 : Reads Try.prog W 22 v0) (r1 : Reads Try.prog W 22 v1) (r2 : Reads Try.prog W 5 v2) (r3 : Reads Try.prog W 5 v3) (r4 : Reads Try.prog W 23 v4) (r5 : Reads Try.prog W 23 v5) (r6 : Reads Try.prog W 4 v6) :
    Calls Try.prog 5 #[v0, v1, v2, v3, v4, v5, v6] W fun e w' => e = .returned (.bool true) ∧ Below W.heap.size W w' := by
  obtain ⟨p, rfl, hp⟩ := r0.int Try.underlying22
  have hp' := wf_u16 hp
  obtain ⟨P, rfl⟩ := Int.eq_ofNat_of_zero_le hp'.1
  obtain ⟨p2, rfl, hp2⟩ := r1.int Try.underlying22
  have hp2' := wf_u16 hp2
  obtain ⟨P2, rfl⟩ := Int.eq_ofNat_of_zero_le hp2'.1
  obtain ⟨q, rfl, hq⟩ := r2.int Try.underlying5
  have hq' := wf_u8 hq
  obtain ⟨Q, rfl⟩ := Int.eq_ofNat_of_zero_le hq'.1
  obtain ⟨q2, rfl, hq2⟩ := r3.int Try.underlying5
  have hq2' := wf_u8 hq2
  obtain ⟨Q2, rfl⟩ := Int.eq_ofNat_of_zero_le hq2'.1
  obtain ⟨a, n, cap, zs, rfl, hr⟩ := r4.ints Try.underlying23 Try.underlying59 (by kernel_rfl)
  obtain ⟨a', n', cap', zs', rfl, hr'⟩ := r5.ints Try.underlying23 Try.underlying59 (by kernel_rfl)
  obtain ⟨al, rfl⟩ := r6.bool Try.underlying4
  by_cases hm : n ≤ 2147483647 ∧ n' ≤ 2147483647
  · obtain ⟨l, hl, hok⟩ := row_words hr
    obtain ⟨l', hl', hok'⟩ := row_words hr'
    cases al
    · exact main_false P P2 Q Q2 a n cap l a' n' cap' l' W hl hok hm.1 hl' hok' hm.2 (by omega) (by omega) (by omega) (by omega)
    · exact main_true P P2 Q Q2 a n cap l a' n' cap' l' W hl hok hm.1 hl' hok' hm.2 (by omega) (by omega) (by omega) (by omega)
  · have hle := hr.le
    have hle' := hr'.le
    clear r0 r1 r2 r3 r4 r5 r6 hr hr' hp hp' hq hq' hp2 hp2' hq2 hq2'
    by_cases h1 : n ≤ 2147483647
    · have hgt : (2147483647 : Int) < (n' : Int) := by omega
      have hng : ¬ (2147483647 : Int) < (n : Int) := by omega
      clear hm
      go_enter Try.func5, Try.ntmps5
      go_wp2_with fail
      go_ret
      exact ⟨rfl, Only.below (Only.refl (fun _ => False) W) (Nat.le_refl _) (fun _ _ => id)⟩
    · have hgt : (2147483647 : Int) < (n : Int) := by omega
      clear hm
      go_enter Try.func5, Try.ntmps5
      go_wp2_with fail
      go_ret
      exact ⟨rfl, Only.below (Only.refl (fun _ => False) W) (Nat.le_refl _) (fun _ _ => id)⟩
end Go.Proofs.Ytpiajkabikbdnaa.walkFnBLEqual

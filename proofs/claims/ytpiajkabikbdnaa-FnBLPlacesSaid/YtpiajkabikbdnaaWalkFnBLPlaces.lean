/-
  FnBLPlaces: the walk. Any locations are tested, modulo the size.
-/
import Derived.Test.YtpiajkabikbdnaaBlSpec
namespace Go.Proofs.Ytpiajkabikbdnaa.walkFnBLPlaces
open Go.RowKit Go.Proofs.Ytpiajkabikbdnaa.base Go.Proofs.Ytpiajkabikbdnaa.heap Go.Proofs.Ytpiajkabikbdnaa.bit Go.Proofs.Ytpiajkabikbdnaa.bs
set_option linter.unusedVariables false

theorem allAt_congr {g g' : Nat → Bool} {M : Nat} (hM : 0 < M) (h : ∀ i, i < M → g i = g' i) (ls : List Nat) : allAt g M ls = allAt g' M ls := by
  unfold allAt
  congr 1
  funext x
  exact h _ (Nat.mod_lt _ hM)
theorem rep_words {o : O} {n : Nat} (h1 : o.n = 64 * n) (h2 : o.m = n) (h3 : o.ws.length = n) : o.rep (bitsOf o.ws (64 * n)) := by
  refine ⟨by rw [bitsOf_len, h1], by rw [bitsOf_len, h2]; exact Nat.le_refl _, fun i => ?_⟩
  rw [bitsOf_get]
  by_cases h : i < 64 * n
  · rw [if_pos h]
  · rw [if_neg h]; exact bit_far _ _ (by omega)

set_option maxRecDepth 100000 in
set_option maxHeartbeats 1600000 in
theorem implTestLocations (M K : Nat) (a : Option Addr) (n cap : Nat) (l : List Nat) (a' : Option Addr) (n' cap' : Nat) (ls : List Nat) (w : World) (h : RU w a n cap l) (hok : Ok l) (hM0 : 0 < M) (hM : M ≤ 700) (hn0 : 0 < n) (hn : n ≤ 16) (hMn : M ≤ 64 * n) (hl : RU w a' n' cap' ls) (hlt : Ok ls) (hn' : n' ≤ 1048576) :
    Calls Try.prog 10 #[.agg #[.int .u64 (M : Int), .int .u64 (K : Int), .slice a n cap], .slice a' n' cap'] w (FV w (.bool (allAt (fun i => (bitsOf l M).getD i false) M ls))) := by
  have HC : Hid (∀ wx, Same w wx → Calls Try.prog 29 #[.agg #[.int .u64 (M : Int), .int .u64 (K : Int), .slice a n cap]] wx (FiltF M K n l wx)) := Lib.hid (fun wx hx => bl_filter M K a n cap l wx (h.keep hx (fun _ _ => id)) (by omega) (by omega) hok)
  have HL : Hid (∀ wx, Same w wx → RU wx a' n' cap' ls) := Lib.hid (fun wx hx => hl.keep hx (fun _ _ => id))
  have HOK := Lib.hid hlt
  clear h hok hl hlt
  go_enter Try.func10, Try.ntmps10
  go_wp2_with fail
  refine (HC.out _ ((Only.refl _ w).alloc _)).mono ?_
  rintro e w1 ⟨f, rfl, hf, e1, e2, e3, e4, e5, hO1, hfr⟩
  have hO := same_alloc hO1
  have hrep := rep_words e3 e4 (by rw [hf.set.len, e4])
  have hT := bl_testLocations f _ a' n' cap' ls w1 hf hrep (by omega) (by omega) (HL.out w1 hO) HOK.out hn'
  have e6 : allAt (fun i => (bitsOf f.o.ws (64 * n)).getD i false) f.M ls = allAt (fun i => (bitsOf l M).getD i false) M ls := by
    rw [e1]
    refine allAt_congr hM0 (fun i hi => ?_) ls
    rw [bitsOf_get, bitsOf_get, if_pos (by omega), if_pos hi, e5]
  rw [e6] at hT
  have HT := Lib.hid hT
  have HO := Lib.hid hO
  clear hf e1 e2 e3 e4 e5 hO1 hfr hO hrep hT e6
  unfold F.ptr at *
  go_wp2_with fail
  refine HT.out.mono ?_
  rintro e w2 ⟨rfl, hO2⟩
  go_wp2_with fail
  go_ret
  exact ⟨rfl, Same.trans HO.out hO2⟩

set_option maxRecDepth 100000 in
set_option maxHeartbeats 1600000 in
theorem main (p q : Nat) (a : Option Addr) (n cap : Nat) (l : List Nat) (a' : Option Addr) (n' cap' : Nat) (ls : List Nat) (w : World) (h : RU w a n cap l) (hok : Ok l) (hn : n ≤ 2147483647) (hl : RU w a' n' cap' ls) (hlt : Ok ls) (hn' : n' ≤ 2147483647) (hp : p < 65536) (hq : q < 256) :
    Calls Try.prog 3 #[.int .u16 (p : Int), .int .u8 (q : Int), .slice a n cap, .slice a' n' cap'] w fun e w' => e = .returned (.bool true) ∧ Below w.heap.size w w' := by
  have HF := Lib.hid (blFilter p q a n cap l w h hok hn hp hq)
  have HL : Hid (∀ wx, Same w wx → RU wx a' n' cap' ls) := Lib.hid (fun wx hx => hl.keep hx (fun _ _ => id))
  have HOK := Lib.hid hlt
  have hbd := h.1.bound
  have hbd' := hl.1.bound
  clear h hok hl hlt
  obtain ⟨M, hM⟩ : ∃ M, 1 + p % 700 = M := ⟨_, rfl⟩
  obtain ⟨K, hK⟩ : ∃ K, 1 + q % 8 = K := ⟨_, rfl⟩
  rw [hM, hK] at HF
  have hM1 : 1 ≤ M := by omega
  have hM2 : M ≤ 700 := by omega
  clear hM hK
  have HT : Hid (∃ n2 ls2, n2 ≤ 20 ∧ Ok ls2 ∧ (∀ wx, Same w wx → RU wx a' n2 cap' ls2) ∧ (n2 = n' ∨ (n2 = 20 ∧ 20 < n'))) := Lib.hid (by
    by_cases h20 : 20 < n'
    · refine ⟨20, ls.take 20, Nat.le_refl _, HOK.out.take 20, fun wx hx => ?_, .inr ⟨rfl, h20⟩⟩
      have := HL.out wx hx
      exact ⟨by rw [← U_take]; exact Rd.first this.1 20 (by omega), by rw [List.length_take, this.2]; omega⟩
    · exact ⟨n', ls, by omega, HOK.out, HL.out, .inl rfl⟩)
  obtain ⟨n2, ls2, h2, hok2, hru2, hcase⟩ := HT.out
  have HRU := Lib.hid hru2
  have HOK2 := Lib.hid hok2
  clear HT hok2 hru2 HL HOK
  have hcase' : ¬ (20 : Int) < (n' : Int) ∧ n2 = n' ∨ (20 : Int) < (n' : Int) ∧ n2 = 20 := by omega
  clear hcase
  rcases hcase' with ⟨h20, rfl⟩ | ⟨h20, rfl⟩
  · go_enter Try.func3, Try.ntmps3
    go_wp2_with fail
    refine HF.out.mono ?_
    rintro e w1 ⟨a1, n1, cap1, l1, rfl, hu1, hok1, hn1, hz1, hO1⟩
    have hx1 : 0 < n1 := by omega
    have hx2 : n1 ≤ 16 := by omega
    have hx3 : M ≤ 64 * n1 := by omega
    have HU1 : Hid (∀ wx, Same w1 wx → RU wx a1 n1 cap1 l1) := Lib.hid (fun wx hx => hu1.keep hx (fun _ _ => id))
    have HOK1 := Lib.hid hok1
    have HO1 := Lib.hid hO1
    clear hu1 hok1 hn1 hz1 hO1
    go_wp2_with fail
    obtain ⟨W, hW, hS, hB, hk⟩ := newBlock w1 #[.int .u64 (M : Int), .int .u64 (K : Int), .slice a1 n1 cap1] 26
    rw [← hW]
    have HK : Hid (∀ wx, Same W wx → wx.cell? ⟨w1.heap.size, 0, none⟩ = some (.int .u64 (M : Int)) ∧ wx.cell? ⟨w1.heap.size, 1, none⟩ = some (.int .u64 (K : Int)) ∧ wx.cell? ⟨w1.heap.size, 2, none⟩ = some (.slice a1 n1 cap1)) := Lib.hid (fun wx hx =>
      ⟨block_cell (still hx hB) rfl, block_cell (still hx hB) rfl, block_cell (still hx hB) rfl⟩)
    obtain ⟨d0, d1, d2⟩ := HK.out W (Only.refl _ _)
    have HS : Hid (Same w W) := Lib.hid (Same.trans HO1.out hS)
    have HT : Hid (∀ w0 wx, Same W w0 → Same w0 wx → Calls Try.prog 10 #[.agg #[.int .u64 (M : Int), .int .u64 (K : Int), .slice a1 n1 cap1], .slice a' n2 cap'] wx (FV w0 (.bool (allAt (fun i => (bitsOf l1 M).getD i false) M ls2)))) := Lib.hid (fun w0 wx h0 hx => fv hx (implTestLocations M K a1 n1 cap1 l1 a' n2 cap' ls2 wx (HU1.out _ (Same.trans hS (Same.trans h0 hx))) HOK1.out hM1 hM2 hx1 hx2 hx3 (HRU.out _ (Same.trans (Same.trans HO1.out hS) (Same.trans h0 hx))) HOK2.out (by omega)))
    have HBB : Hid (∀ w0 wx, Same W w0 → Same w0 wx → Calls Try.prog 12 #[.agg #[.int .u64 (M : Int), .int .u64 (K : Int), .slice a1 n1 cap1]] wx (FBools w0 (bitsOf l1 M))) := Lib.hid (fun w0 wx h0 hx => fbools hx (blBits M K a1 n1 cap1 l1 wx (HU1.out _ (Same.trans hS (Same.trans h0 hx))) HOK1.out hx3 (by omega)))
    have HA : Hid (∀ w0 wx a0 c0, Same W w0 → Same w0 wx → RB wx a0 (bitsOf l1 M).length c0 (bitsOf l1 M) → Calls Try.prog 11 #[.slice a0 (bitsOf l1 M).length c0, .slice a' n2 cap'] wx (FV w0 (.bool (allAt (fun i => (bitsOf l1 M).getD i false) M ls2)))) := Lib.hid (fun w0 wx a0 c0 h0 hx hrb => by
      have h1 := fv hx (blAll a0 c0 (bitsOf l1 M) a' n2 cap' ls2 wx hrb (by rw [bitsOf_len]; omega) (by rw [bitsOf_len]; omega) (HRU.out _ (Same.trans (Same.trans HO1.out hS) (Same.trans h0 hx))) HOK2.out (by omega))
      rw [bitsOf_len] at h1
      rw [bitsOf_len]
      exact h1)
    clear hW hS hB hk
    generalize allAt (fun i => (bitsOf l1 M).getD i false) M ls2 = res at *
    generalize bitsOf l1 M = d at *
    go_region_held3 (fun w' => w'.cell? ⟨w1.heap.size, 0, none⟩ = some (.int .u64 (M : Int)) ∧ w'.cell? ⟨w1.heap.size, 1, none⟩ = some (.int .u64 (K : Int)) ∧ w'.cell? ⟨w1.heap.size, 2, none⟩ = some (.slice a1 n1 cap1))
      (first | go_keep | (go_split_ands; exact HK.out _ (Same.trans hO3 (Same.trans hO4 hO5))) | (go_split_ands; exact HK.out _ (Same.trans hO3 hO4)) | (go_split_ands; exact HK.out _ hO3))
      (first | ((go_at_call 10; (with_reducible refine (HT.out W _ (Only.refl _ _) (by exact (Only.refl _ W).drew)).mono ?_); rintro e w3 ⟨rfl, hO3⟩)) | ((go_at_call 12; (with_reducible refine (HBB.out w3 _ hO3 (Only.refl _ _)).mono ?_); rintro e w4 ⟨a4, c4, rfl, hb4, hO4⟩)) | ((go_at_call 11; (with_reducible refine (HA.out w4 _ a4 c4 (Same.trans hO3 hO4) (Only.refl _ _) hb4).mono ?_); rintro e w5 ⟨rfl, hO5⟩)))
    go_wp2
    go_ret
    exact ⟨by simp, Only.below (Same.trans HS.out (Same.trans hO3 (Same.trans hO4 hO5))) (Nat.le_refl _) (fun _ _ => id)⟩
  · go_enter Try.func3, Try.ntmps3
    go_wp2_with fail
    refine HF.out.mono ?_
    rintro e w1 ⟨a1, n1, cap1, l1, rfl, hu1, hok1, hn1, hz1, hO1⟩
    have hx1 : 0 < n1 := by omega
    have hx2 : n1 ≤ 16 := by omega
    have hx3 : M ≤ 64 * n1 := by omega
    have HU1 : Hid (∀ wx, Same w1 wx → RU wx a1 n1 cap1 l1) := Lib.hid (fun wx hx => hu1.keep hx (fun _ _ => id))
    have HOK1 := Lib.hid hok1
    have HO1 := Lib.hid hO1
    clear hu1 hok1 hn1 hz1 hO1
    go_wp2_with fail
    obtain ⟨W, hW, hS, hB, hk⟩ := newBlock w1 #[.int .u64 (M : Int), .int .u64 (K : Int), .slice a1 n1 cap1] 26
    rw [← hW]
    have HK : Hid (∀ wx, Same W wx → wx.cell? ⟨w1.heap.size, 0, none⟩ = some (.int .u64 (M : Int)) ∧ wx.cell? ⟨w1.heap.size, 1, none⟩ = some (.int .u64 (K : Int)) ∧ wx.cell? ⟨w1.heap.size, 2, none⟩ = some (.slice a1 n1 cap1)) := Lib.hid (fun wx hx =>
      ⟨block_cell (still hx hB) rfl, block_cell (still hx hB) rfl, block_cell (still hx hB) rfl⟩)
    obtain ⟨d0, d1, d2⟩ := HK.out W (Only.refl _ _)
    have HS : Hid (Same w W) := Lib.hid (Same.trans HO1.out hS)
    have HT : Hid (∀ w0 wx, Same W w0 → Same w0 wx → Calls Try.prog 10 #[.agg #[.int .u64 (M : Int), .int .u64 (K : Int), .slice a1 n1 cap1], .slice a' 20 cap'] wx (FV w0 (.bool (allAt (fun i => (bitsOf l1 M).getD i false) M ls2)))) := Lib.hid (fun w0 wx h0 hx => fv hx (implTestLocations M K a1 n1 cap1 l1 a' 20 cap' ls2 wx (HU1.out _ (Same.trans hS (Same.trans h0 hx))) HOK1.out hM1 hM2 hx1 hx2 hx3 (HRU.out _ (Same.trans (Same.trans HO1.out hS) (Same.trans h0 hx))) HOK2.out (by omega)))
    have HBB : Hid (∀ w0 wx, Same W w0 → Same w0 wx → Calls Try.prog 12 #[.agg #[.int .u64 (M : Int), .int .u64 (K : Int), .slice a1 n1 cap1]] wx (FBools w0 (bitsOf l1 M))) := Lib.hid (fun w0 wx h0 hx => fbools hx (blBits M K a1 n1 cap1 l1 wx (HU1.out _ (Same.trans hS (Same.trans h0 hx))) HOK1.out hx3 (by omega)))
    have HA : Hid (∀ w0 wx a0 c0, Same W w0 → Same w0 wx → RB wx a0 (bitsOf l1 M).length c0 (bitsOf l1 M) → Calls Try.prog 11 #[.slice a0 (bitsOf l1 M).length c0, .slice a' 20 cap'] wx (FV w0 (.bool (allAt (fun i => (bitsOf l1 M).getD i false) M ls2)))) := Lib.hid (fun w0 wx a0 c0 h0 hx hrb => by
      have h1 := fv hx (blAll a0 c0 (bitsOf l1 M) a' 20 cap' ls2 wx hrb (by rw [bitsOf_len]; omega) (by rw [bitsOf_len]; omega) (HRU.out _ (Same.trans (Same.trans HO1.out hS) (Same.trans h0 hx))) HOK2.out (by omega))
      rw [bitsOf_len] at h1
      rw [bitsOf_len]
      exact h1)
    clear hW hS hB hk
    generalize allAt (fun i => (bitsOf l1 M).getD i false) M ls2 = res at *
    generalize bitsOf l1 M = d at *
    go_region_held3 (fun w' => w'.cell? ⟨w1.heap.size, 0, none⟩ = some (.int .u64 (M : Int)) ∧ w'.cell? ⟨w1.heap.size, 1, none⟩ = some (.int .u64 (K : Int)) ∧ w'.cell? ⟨w1.heap.size, 2, none⟩ = some (.slice a1 n1 cap1))
      (first | go_keep | (go_split_ands; exact HK.out _ (Same.trans hO3 (Same.trans hO4 hO5))) | (go_split_ands; exact HK.out _ (Same.trans hO3 hO4)) | (go_split_ands; exact HK.out _ hO3))
      (first | ((go_at_call 10; (with_reducible refine (HT.out W _ (Only.refl _ _) (by exact (Only.refl _ W).drew)).mono ?_); rintro e w3 ⟨rfl, hO3⟩)) | ((go_at_call 12; (with_reducible refine (HBB.out w3 _ hO3 (Only.refl _ _)).mono ?_); rintro e w4 ⟨a4, c4, rfl, hb4, hO4⟩)) | ((go_at_call 11; (with_reducible refine (HA.out w4 _ a4 c4 (Same.trans hO3 hO4) (Only.refl _ _) hb4).mono ?_); rintro e w5 ⟨rfl, hO5⟩)))
    go_wp2
    go_ret
    exact ⟨by simp, Only.below (Same.trans HS.out (Same.trans hO3 (Same.trans hO4 hO5))) (Nat.le_refl _) (fun _ _ => id)⟩

theorem walk (W : World) (v0 v1 v2 v3 : Value) (r0 : Reads Try.prog W 22 v0) (r1 : Reads Try.prog W 5 v1) (r2 : Reads Try.prog W 23 v2) (r3 : Reads Try.prog W 23 v3) :
    Calls Try.prog 3 #[v0, v1, v2, v3] W fun e w' => e = .returned (.bool true) ∧ Below W.heap.size W w' := by
  obtain ⟨p, rfl, hp⟩ := r0.int Try.underlying22
  have hp' := wf_u16 hp
  obtain ⟨P, rfl⟩ := Int.eq_ofNat_of_zero_le hp'.1
  obtain ⟨q, rfl, hq⟩ := r1.int Try.underlying5
  have hq' := wf_u8 hq
  obtain ⟨Q, rfl⟩ := Int.eq_ofNat_of_zero_le hq'.1
  obtain ⟨a, n, cap, zs, rfl, hr⟩ := r2.ints Try.underlying23 Try.underlying59 (by kernel_rfl)
  obtain ⟨a', n', cap', zs', rfl, hr'⟩ := r3.ints Try.underlying23 Try.underlying59 (by kernel_rfl)
  by_cases hm : n ≤ 2147483647 ∧ n' ≤ 2147483647
  · obtain ⟨l, hl, hok⟩ := row_words hr
    obtain ⟨l', hl', hok'⟩ := row_words hr'
    exact main P Q a n cap l a' n' cap' l' W hl hok hm.1 hl' hok' hm.2 (by omega) (by omega)
  · have hle := hr.le
    have hle' := hr'.le
    clear r0 r1 r2 r3 hr hr' hp hp' hq hq'
    by_cases h1 : n ≤ 2147483647
    · have hgt : (2147483647 : Int) < (n' : Int) := by omega
      have hng : ¬ (2147483647 : Int) < (n : Int) := by omega
      clear hm
      go_enter Try.func3, Try.ntmps3
      go_wp2_with fail
      go_ret
      exact ⟨rfl, Only.below (Only.refl (fun _ => False) W) (Nat.le_refl _) (fun _ _ => id)⟩
    · have hgt : (2147483647 : Int) < (n : Int) := by omega
      clear hm
      go_enter Try.func3, Try.ntmps3
      go_wp2_with fail
      go_ret
      exact ⟨rfl, Only.below (Only.refl (fun _ => False) W) (Nat.le_refl _) (fun _ _ => id)⟩
end Go.Proofs.Ytpiajkabikbdnaa.walkFnBLPlaces

/-
  FnBLTestAndAdd: the walk. Testing and adding returns what testing does, and does what adding does.
-/
import Derived.Test.YtpiajkabikbdnaaBlTaaI
namespace Go.Proofs.Ytpiajkabikbdnaa.walkFnBLTestAndAdd
open Go.RowKit Go.Proofs.Ytpiajkabikbdnaa.base Go.Proofs.Ytpiajkabikbdnaa.heap Go.Proofs.Ytpiajkabikbdnaa.bit Go.Proofs.Ytpiajkabikbdnaa.bs
set_option linter.unusedVariables false

set_option maxRecDepth 100000 in
set_option maxHeartbeats 3200000 in
theorem main (p q : Nat) (a : Option Addr) (n cap : Nat) (l : List Nat) (a' : Option Addr) (n' cap' : Nat) (dl : List Nat) (w : World) (h : RU w a n cap l) (hok : Ok l) (hn : n ≤ 2147483647) (hr : RY w a' n' cap' dl) (hby : ∀ x ∈ dl, x < 256) (hn' : n' ≤ 2147483647) (hp : p < 65536) (hq : q < 256) :
    Calls Try.prog 7 #[.int .u16 (p : Int), .int .u8 (q : Int), .slice a n cap, .slice a' n' cap'] w fun e w' => e = .returned (.bool true) ∧ Below w.heap.size w w' := by
  obtain ⟨H, hH⟩ := baseHashes
  have HH := Lib.hid hH
  have HF := Lib.hid (blFilter p q a n cap l w h hok hn hp hq)
  have HD : Hid (∀ w0 wx, Same w w0 → Same w0 wx → Calls Try.prog 18 #[.slice a' n' cap'] wx (FData w w0)) := Lib.hid (fun w0 wx h0 hx => blData a' n' cap' dl w w0 wx hr hby h0 hx)
  have hbd := h.1.bound
  have hbd' := hr.1.bound
  clear h hok hr hby hH
  obtain ⟨M, hM⟩ : ∃ M, 1 + p % 700 = M := ⟨_, rfl⟩
  obtain ⟨K, hK⟩ : ∃ K, 1 + q % 8 = K := ⟨_, rfl⟩
  rw [hM, hK] at HF
  have hM1 : 1 ≤ M := by omega
  have hM2 : M ≤ 700 := by omega
  have hK2 : K ≤ 8 := by omega
  clear hM hK
  go_enter Try.func7, Try.ntmps7
  go_wp2_with fail
  refine HF.out.mono ?_
  rintro e w1 ⟨a1, n1, cap1, l1, rfl, hu1, hok1, hn1, hz1, hO1, hfr1⟩
  have HU1 : Hid (∀ wx, Same w1 wx → RU wx a1 n1 cap1 l1) := Lib.hid (fun wx hx => hu1.keep hx (fun _ _ => id))
  have HOK1 := Lib.hid hok1
  have HO1 := Lib.hid hO1
  have hx1 : 0 < n1 ∧ n1 ≤ 16 ∧ M ≤ 64 * n1 := by omega
  clear hu1 hok1 hn1 hz1 hO1 hfr1
  go_wp2_with fail
  refine (HD.out w1 _ HO1.out (by first | exact Only.refl _ _ | exact (Only.refl _ _).drew)).mono ?_
  rintro e w2 ⟨a2, n2, cap2, d, rfl, hn2, hby, hry, hO2⟩
  have HRY := Lib.hid hry
  have HBY := Lib.hid hby
  have hbd2 := (hry w (Only.refl _ _)).1.bound
  have HO2 := Lib.hid hO2
  clear hry hby hO2
  go_wp2_with fail
  obtain ⟨W, hW, hS, hB, hk⟩ := newBlock w2 #[.int .u64 (M : Int), .int .u64 (K : Int), .slice a1 n1 cap1] 26
  rw [← hW]
  have HK : Hid (∀ w', Same W w' → w'.cell? ⟨w2.heap.size, 0, none⟩ = some (.int .u64 (M : Int)) ∧ w'.cell? ⟨w2.heap.size, 1, none⟩ = some (.int .u64 (K : Int)) ∧ w'.cell? ⟨w2.heap.size, 2, none⟩ = some (.slice a1 n1 cap1)) := Lib.hid (fun wx hx =>
    ⟨block_cell (still hx hB) rfl, block_cell (still hx hB) rfl, block_cell (still hx hB) rfl⟩)
  obtain ⟨d0, d1, d2⟩ := HK.out W (Only.refl _ _)
  have HS1 : Hid (Same w1 W) := Lib.hid (Same.trans HO2.out hS)
  have HS : Hid (Same w W) := Lib.hid (Same.trans HO1.out HS1.out)
  obtain ⟨ls, hls⟩ : ∃ ls, (List.range K).map (loc (H d)) = ls := ⟨_, rfl⟩
  have hlsok : Ok ls := by rw [← hls]; exact locs_ok _ _
  have hlslen : ls.length = K := by rw [← hls]; simp
  obtain ⟨b, hb⟩ : ∃ b, bitsOf l1 M = b := ⟨_, rfl⟩
  have hbl : b.length = M := by rw [← hb]; exact bitsOf_len _ _
  have HBB : Hid (∀ w0 wx, Same W w0 → Same w0 wx → Calls Try.prog 12 #[.agg #[.int .u64 (M : Int), .int .u64 (K : Int), .slice a1 n1 cap1]] wx fun e w' => ∃ a0 c0, e = .returned (.slice a0 M c0) ∧ RB w' a0 M c0 b ∧ Same w0 w') := Lib.hid (fun w0 wx h1 h2 => by
    have := fbools h2 (blBits M K a1 n1 cap1 l1 wx (HU1.out _ (Same.trans HS1.out (Same.trans h1 h2))) HOK1.out hx1.2.2 (by omega))
    rw [hb] at this
    unfold FBools at this
    rw [hbl] at this
    exact this)
  have HLO : Hid (∀ w0 wx, Same W w0 → Same w0 wx → Calls Try.prog 20 #[.slice a2 n2 cap2, .int .u64 (K : Int)] wx fun e w' => ∃ a0 c0, e = .returned (.slice a0 K c0) ∧ RU w' a0 K c0 ls ∧ Same w0 w') := Lib.hid (fun w0 wx h1 h2 => by
    have := implLocations H HH.out d a2 n2 cap2 K wx (HRY.out _ (Same.trans HS.out (Same.trans h1 h2))) (by omega) (by omega)
    rw [hls] at this
    exact this.mono fun e w' ⟨a0, c0, he, hu, hO, _⟩ => ⟨a0, c0, he, hu, Same.trans h2 hO⟩)
  have HPU : Hid (∀ w0 wx a0 c0 a9 c9, Same w0 wx → RB wx a0 M c0 b → RU wx a9 K c9 ls → Calls Try.prog 19 #[.slice a0 M c0, .slice a9 K c9] wx fun e w' => ∃ a3 c3, e = .returned (.slice a3 M c3) ∧ RB w' a3 M c3 (putAll b ls) ∧ Same w0 w') := Lib.hid (fun w0 wx a0 c0 a9 c9 h1 h2 h3 => by
    have := blPut a0 c0 b a9 K c9 ls wx (by rw [hbl]; exact h2) (by omega) (by omega) h3 hlsok (by omega)
    rw [hbl] at this
    refine this.mono fun e w' ⟨a3, c3, he, hu, hO, _⟩ => ⟨a3, c3, ?_, ?_, Same.trans h1 hO⟩
    · rw [putAll_len, hbl] at he; exact he
    · rw [putAll_len, hbl] at hu; exact hu)
  obtain ⟨pr, hpr⟩ : ∃ pr, allAt (fun i => b.getD i false) b.length ls = pr := ⟨_, rfl⟩
  have HADD : Hid (∀ w0 wx, Same W w0 → Same w0 wx → Calls Try.prog 23 #[.agg #[.int .u64 (M : Int), .int .u64 (K : Int), .slice a1 n1 cap1], .slice a2 n2 cap2] wx (FPutV w0 M K n1 (putAll b ls) pr)) := Lib.hid (fun w0 wx h1 h2 => by
    have := implBLTestAndAdd H HH.out M K a1 n1 cap1 l1 d a2 n2 cap2 wx (HRY.out _ (Same.trans HS.out (Same.trans h1 h2))) (by omega) (HU1.out _ (Same.trans HS1.out (Same.trans h1 h2))) hx1.1 (by omega) HOK1.out (by omega) hx1.2.2 (by omega)
    rw [hls, hb, hpr] at this
    exact fputv h2 (by rw [putAll_len, hbl]) this)
  have HSTR : Hid (∀ w0 wx, Same W w0 → Same w0 wx → Calls Try.prog 24 #[.agg #[.int .u64 (M : Int), .int .u64 (K : Int), .slice a1 n1 cap1], .string (sOf d)] wx (FPutV w0 M K n1 (putAll b ls) pr)) := Lib.hid (fun w0 wx h1 h2 => by
    have := implBLTestAndAddString H HH.out M K a1 n1 cap1 l1 (sOf d) wx (by rw [← nums_len, sOf_nums d HBY.out, (HRY.out w (Only.refl _ _)).2]; omega) (HU1.out _ (Same.trans HS1.out (Same.trans h1 h2))) hx1.1 (by omega) HOK1.out (by omega) hx1.2.2 (by omega)
    rw [sOf_nums d HBY.out, hls, hb, hpr] at this
    exact fputv h2 (by rw [putAll_len, hbl]) this)
  have HAL : Hid (∀ w0 wx a0 c0 a9 c9, Same w0 wx → RB wx a0 M c0 b → RU wx a9 K c9 ls → Calls Try.prog 11 #[.slice a0 M c0, .slice a9 K c9] wx (FV w0 (.bool pr))) := Lib.hid (fun w0 wx a0 c0 a9 c9 h1 h2 h3 => by
    have := blAll a0 c0 b a9 K c9 ls wx (by rw [hbl]; exact h2) (by omega) (by omega) h3 hlsok (by omega)
    rw [hpr, hbl] at this
    exact fv h1 this)
  have HSM : Hid (∀ w0 wx a3 c3 l3 a9 c9, Same w0 wx → PutIn wx a3 n1 c3 l3 M (putAll b ls) → RB wx a9 M c9 (putAll b ls) → Calls Try.prog 14 #[.agg #[.int .u64 (M : Int), .int .u64 (K : Int), .slice a3 n1 c3], .int .u64 (K : Int), .slice a9 M c9] wx (FV w0 (.bool true))) := Lib.hid (fun w0 wx a3 c3 l3 a9 c9 h1 h2 h3 => same_put (by rw [putAll_len, hbl]) (by omega) (by omega) h1 h2 h3)
  have HCV : Hid (∀ wx, Same W wx → (convert 40 9 (.slice a2 n2 cap2)).run Try.prog wx = .ok (.string (sOf d)) wx) := Lib.hid (fun wx hx => run_string wx a2 n2 cap2 d (HRY.out _ (Same.trans HS.out hx)))
  have HBW := Lib.hid hB
  clear hW hS hB hk hb hbl hls hlsok hlslen hpr
  generalize putAll b ls = b' at *
  go_region_held3 (fun w' => w'.cell? ⟨w2.heap.size, 0, none⟩ = some (.int .u64 (M : Int)) ∧ w'.cell? ⟨w2.heap.size, 1, none⟩ = some (.int .u64 (K : Int)) ∧ w'.cell? ⟨w2.heap.size, 2, none⟩ = some (.slice a1 n1 cap1))
    (first | go_keep | (exact HK.out _ (Same.trans hO3 hO4)) | (exact HK.out _ hO3))
    (first | ((go_at_call 12; (with_reducible refine (HBB.out W _ (Only.refl _ _) (by first | exact (Only.refl _ W).drew | exact Only.refl _ W)).mono ?_); rintro e w3 ⟨a3, c3, rfl, hb3, hO3⟩)) | ((go_at_call 20; (with_reducible refine (HLO.out w3 _ hO3 (Only.refl _ _)).mono ?_); rintro e w4 ⟨a4, c4, rfl, hu4, hO4⟩)))
  have HS4 := Lib.hid (Same.trans hO3 hO4)
  have HB3 : Hid (∀ wx, Same w4 wx → RB wx a3 M c3 b) := Lib.hid (fun wx hx => (hb3.keep hO4 (fun _ _ => id)).keep hx (fun _ _ => id))
  have HU4 : Hid (∀ wx, Same w4 wx → RU wx a4 K c4 ls) := Lib.hid (fun wx hx => hu4.keep hx (fun _ _ => id))
  clear hb3 hO3 hu4 hO4 d0 d1 d2 HBB HLO
  go_wp2_with fail
  refine (HPU.out w4 _ a3 c3 a4 c4 (Only.refl _ _) (HB3.out _ (Only.refl _ _)) (HU4.out _ (Only.refl _ _))).mono ?_
  rintro e w5 ⟨a5, c5, rfl, hb5, hO5⟩
  have HO5 := Lib.hid hO5
  have HS5 := Lib.hid (Same.trans HS4.out hO5)
  have HB5 : Hid (∀ wx, Same w5 wx → RB wx a5 M c5 b') := Lib.hid (fun wx hx => hb5.keep hx (fun _ _ => id))
  clear hb5 hO5 HPU
  obtain ⟨d0, d1, d2⟩ := HK.out w5 HS5.out
  go_wp2_with fail
  refine (HADD.out w5 _ HS5.out (Only.refl _ _)).mono ?_
  rintro e w6 ⟨a6, c6, l6, rfl, hp6, hO6⟩
  have HP6 : Hid (∀ wx, Same w6 wx → PutIn wx a6 n1 c6 l6 M b') := Lib.hid (fun wx hx => hp6.keep hx)
  have HS6 := Lib.hid (Same.trans HS5.out hO6)
  have HO6 := Lib.hid hO6
  clear hp6 hO6 d0 d1 d2
  obtain ⟨d0, d1, d2⟩ := HK.out w6 HS6.out
  have hbx : w2.heap.size < w6.heap.size := lt_of_heap (still HS6.out HBW.out)
  have hcv : ∀ o, (convert 40 9 (.slice a2 n2 cap2)).run Try.prog (w6.alloc o) = .ok (.string (sOf d)) (w6.alloc o) := fun o => HCV.out _ (Only.alloc HS6.out o)
  go_wp2_with fail
  obtain ⟨W6, hW6, hS6, hB6, hk6⟩ := newBlock w6 #[.int .u64 (M : Int), .int .u64 (K : Int), .slice a6 n1 c6] 26
  rw [← hW6]
  have HS66 := Lib.hid (Same.trans HS6.out hS6)
  have HB6 := Lib.hid hB6
  have HO66 := Lib.hid hS6
  clear hW6 hS6 hB6 hk6
  clear hcv
  refine (HSTR.out W6 _ HS66.out (Only.refl _ _)).mono ?_
  rintro e w7 ⟨a7, c7, l7, rfl, hp7, hO7⟩
  have HP7 : Hid (∀ wx, Same w7 wx → PutIn wx a7 n1 c7 l7 M b') := Lib.hid (fun wx hx => hp7.keep hx)
  have HO7 := Lib.hid hO7
  clear hp7 hO7 d0 d1 d2
  go_wp2_with fail
  obtain ⟨W7, hW7, hS7, hB7, hk7⟩ := newBlock w7 #[.int .u64 (M : Int), .int .u64 (K : Int), .slice a7 n1 c7] 26
  rw [← hW7]
  have HO77 : Hid (Same W6 W7) := Lib.hid (Same.trans HO7.out hS7)
  have HO57 : Hid (Same w4 W7) := Lib.hid (Same.trans HO5.out (Same.trans HO6.out (Same.trans HO66.out HO77.out)))
  have HK2 : Hid (∀ w', Same W7 w' → (w'.cell? ⟨w2.heap.size, 0, none⟩ = some (.int .u64 (M : Int)) ∧ w'.cell? ⟨w2.heap.size, 1, none⟩ = some (.int .u64 (K : Int)) ∧ w'.cell? ⟨w2.heap.size, 2, none⟩ = some (.slice a1 n1 cap1)) ∧ (w'.cell? ⟨w6.heap.size, 0, none⟩ = some (.int .u64 (M : Int)) ∧ w'.cell? ⟨w6.heap.size, 1, none⟩ = some (.int .u64 (K : Int)) ∧ w'.cell? ⟨w6.heap.size, 2, none⟩ = some (.slice a6 n1 c6)) ∧ (w'.cell? ⟨w7.heap.size, 0, none⟩ = some (.int .u64 (M : Int)) ∧ w'.cell? ⟨w7.heap.size, 1, none⟩ = some (.int .u64 (K : Int)) ∧ w'.cell? ⟨w7.heap.size, 2, none⟩ = some (.slice a7 n1 c7))) := Lib.hid (fun wx hx =>
    ⟨HK.out wx (Same.trans HS66.out (Same.trans HO77.out hx)), ⟨block_cell (still (Same.trans HO77.out hx) HB6.out) rfl, block_cell (still (Same.trans HO77.out hx) HB6.out) rfl, block_cell (still (Same.trans HO77.out hx) HB6.out) rfl⟩, ⟨block_cell (still hx hB7) rfl, block_cell (still hx hB7) rfl, block_cell (still hx hB7) rfl⟩⟩)
  have HP6' : Hid (∀ wx, Same W7 wx → PutIn wx a6 n1 c6 l6 M b') := Lib.hid (fun wx hx => HP6.out wx (Same.trans HO66.out (Same.trans HO77.out hx)))
  have HP7' : Hid (∀ wx, Same W7 wx → PutIn wx a7 n1 c7 l7 M b') := Lib.hid (fun wx hx => HP7.out wx (Same.trans hS7 hx))
  have HB57 : Hid (∀ wx, Same W7 wx → RB wx a5 M c5 b') := Lib.hid (fun wx hx => HB5.out wx (Same.trans HO6.out (Same.trans HO66.out (Same.trans HO77.out hx))))
  have HSW7 : Hid (Same w W7) := Lib.hid (Same.trans HS.out (Same.trans HS66.out HO77.out))
  clear hW7 hS7 hB7 hk7
  obtain ⟨⟨d0, d1, d2⟩, ⟨d3, d4, d5⟩, ⟨d6, d7, d8⟩⟩ := HK2.out W7 (Only.refl _ _)
  go_wp2_with fail
  refine (HAL.out W7 _ a3 c3 a4 c4 (Only.refl _ _) (HB3.out _ HO57.out) (HU4.out _ HO57.out)).mono ?_
  rintro e w8 ⟨rfl, hO8⟩
  have HO8 := Lib.hid hO8
  clear d0 d1 d2 d3 d4 d5 d6 d7 d8
  obtain ⟨⟨d0, d1, d2⟩, ⟨d3, d4, d5⟩, ⟨d6, d7, d8⟩⟩ := HK2.out w8 hO8
  clear hO8
  go_wp2_with fail
  refine (HSM.out w8 _ a6 c6 l6 a5 c5 (Only.refl _ _) (HP6'.out _ HO8.out) (HB57.out _ HO8.out)).mono ?_
  rintro e w9 ⟨rfl, hO9⟩
  have HO9 := Lib.hid (Same.trans HO8.out hO9)
  clear d0 d1 d2 d3 d4 d5 d6 d7 d8 hO9
  obtain ⟨⟨d0, d1, d2⟩, ⟨d3, d4, d5⟩, ⟨d6, d7, d8⟩⟩ := HK2.out w9 HO9.out
  go_wp2_with fail
  refine (HSM.out w9 _ a7 c7 l7 a5 c5 (Only.refl _ _) (HP7'.out _ HO9.out) (HB57.out _ HO9.out)).mono ?_
  rintro e w10 ⟨rfl, hO10⟩
  have HO10 := Lib.hid (Same.trans HSW7.out (Same.trans HO9.out hO10))
  clear d0 d1 d2 d3 d4 d5 d6 d7 d8 hO10
  go_wp2_with fail
  go_ret
  exact ⟨by simp, Only.below HO10.out (Nat.le_refl _) (fun _ _ => id)⟩

theorem walk (W : World) (v0 v1 v2 v3 : Value) (r0 : Reads Try.prog W 22 v0) (r1 : Reads Try.prog W 5 v1) (r2 : Reads Try.prog W 23 v2) (r3 : Reads Try.prog W 40 v3) :
    Calls Try.prog 7 #[v0, v1, v2, v3] W fun e w' => e = .returned (.bool true) ∧ Below W.heap.size W w' := by
  obtain ⟨p, rfl, hp⟩ := r0.int Try.underlying22
  have hp' := wf_u16 hp
  obtain ⟨P, rfl⟩ := Int.eq_ofNat_of_zero_le hp'.1
  obtain ⟨q, rfl, hq⟩ := r1.int Try.underlying5
  have hq' := wf_u8 hq
  obtain ⟨Q, rfl⟩ := Int.eq_ofNat_of_zero_le hq'.1
  obtain ⟨a, n, cap, zs, rfl, hr⟩ := r2.ints Try.underlying23 Try.underlying59 (by kernel_rfl)
  obtain ⟨a', n', cap', zs', rfl, hr'⟩ := r3.ints Try.underlying40 Try.underlying5 (by kernel_rfl)
  by_cases hm : n ≤ 2147483647 ∧ n' ≤ 2147483647
  · obtain ⟨l, hl, hok⟩ := row_words hr
    obtain ⟨l', hl', hby⟩ := row_bytes hr'
    exact main P Q a n cap l a' n' cap' l' W hl hok hm.1 hl' hby hm.2 (by omega) (by omega)
  · have hle := hr.le
    have hle' := hr'.le
    clear r0 r1 r2 r3 hr hr' hp hp' hq hq'
    by_cases h1 : n ≤ 2147483647
    · have hgt : (2147483647 : Int) < (n' : Int) := by omega
      have hng : ¬ (2147483647 : Int) < (n : Int) := by omega
      clear hm
      go_enter Try.func7, Try.ntmps7
      go_wp2_with fail
      go_ret
      exact ⟨rfl, Only.below (Only.refl (fun _ => False) W) (Nat.le_refl _) (fun _ _ => id)⟩
    · have hgt : (2147483647 : Int) < (n : Int) := by omega
      clear hm
      go_enter Try.func7, Try.ntmps7
      go_wp2_with fail
      go_ret
      exact ⟨rfl, Only.below (Only.refl (fun _ => False) W) (Nat.le_refl _) (fun _ _ => id)⟩
end Go.Proofs.Ytpiajkabikbdnaa.walkFnBLTestAndAdd

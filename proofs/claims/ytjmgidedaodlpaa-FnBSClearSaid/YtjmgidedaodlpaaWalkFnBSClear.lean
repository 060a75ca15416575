/-
  FnBSClear: the walk. Clearing a bit clears it alone; beyond the end nothing happens.
-/
import Derived.Test.YtjmgidedaodlpaaBsImpl1
import Derived.Test.YtjmgidedaodlpaaBsLaw
import Derived.Deep.RegionHeld3
namespace Go.Proofs.Ytjmgidedaodlpaa.walkFnBSClear
open Go.RowKit Go.Proofs.Ytjmgidedaodlpaa.base Go.Proofs.Ytjmgidedaodlpaa.heap Go.Proofs.Ytjmgidedaodlpaa.bit Go.Proofs.Ytjmgidedaodlpaa.bs
set_option linter.unusedVariables false

set_option maxRecDepth 100000 in
set_option maxHeartbeats 1600000 in
theorem main (n : Nat) (a : Option Addr) (m cap : Nat) (zs : List Int) (p : Nat) (w : World) (hr : IsRow .u64 w a m cap zs) (hm : m ≤ 2147483647) (hp : p < 65536) :
    Calls Try.prog 6 #[.agg #[.int .u64 (n : Int), .slice a m cap], .int .u16 (p : Int)] w fun e w' => e = .returned (.bool true) ∧ Below w.heap.size w w' := by
  obtain ⟨i, hi⟩ : ∃ i : Nat, p % 1000 = i := ⟨_, rfl⟩
  have hi1 : i < 1000 := by omega
  have HI : Hid ((p : Int) % 1000 = (i : Int)) := Lib.hid (by omega)
  clear hi
  have HRow := Lib.hid hr
  clear hr
  go_enter Try.func6, Try.ntmps6
  go_wp2_with fail
  refine (fits_yes _ _ _ _ _ hm).mono ?_
  rintro e w1 ⟨rfl, hO1⟩
  have hB0 := boxed hO1
  have hO1 := same_alloc hO1
  have c0 : w1.cell? ⟨w.heap.size, 0, none⟩ = some (.int .u64 (n : Int)) := block_cell hB0 rfl
  have c1 : w1.cell? ⟨w.heap.size, 1, none⟩ = some (.slice a m cap) := block_cell hB0 rfl
  clear hB0
  go_wp2_with fail
  refine (bsBits n a m cap zs _ (IsRow.keep HRow.out hO1) hm).mono ?_
  rintro e w2 ⟨b, hb, a2, m2, cap2, rfl, hu2, hO2, hf2⟩
  have hb4 : b.length ≤ 400 := by omega
  have hO2 := hO1.trans hO2
  clear hO1 hb c0 c1 hf2
  go_wp2_with fail
  obtain ⟨W5, hW5, hS5, hB5, hk5⟩ := newBlock w2 #[.int .u64 (b.length : Int), .slice a2 m2 cap2] 33
  rw [← hW5]
  have hBV : ∀ wx, Same W5 wx → BV wx (.agg #[.int .u64 (b.length : Int), .slice a2 m2 cap2]) b := fun wx hx => ⟨a2, m2, cap2, rfl, hu2.keep (hS5.trans hx) (fun _ _ => id)⟩
  have HBV := Lib.hid hBV
  have HO5 : Hid (Same w W5) := Lib.hid (Same.trans hO2 hS5)
  have HB5 := Lib.hid hB5
  generalize w2.heap.size = k5 at *
  clear hu2 hO2 hBV hW5 hS5 hk5 hB5
  refine (fbools (Only.refl _ W5) (bsBools _ b _ (HBV.out _ (Only.refl _ _)) (by omega))).mono ?_
  rintro e w3 ⟨a3, cap3, rfl, hb3, hO3⟩
  rw [HI.out]
  go_wp2_with fail
  refine (fbools hO3 (bsPut0 a3 cap3 b i (i + 1) _ hb3 (by omega) (by omega) (by omega) (by omega))).mono ?_
  rintro e w4 ⟨a4, cap4, rfl, hb4', hO4⟩
  go_wp2_with fail
  refine (fbits hO4 (bsMake a4 cap4 (putL b i (i + 1) 0) _ hb4' (by rw [putL_len]; omega))).mono ?_
  rintro e w6 ⟨a6, m6, cap6, rfl, hu6, hO6⟩
  clear hb3 hb4' hO3 hO4
  go_wp2_with fail
  have hpl : (putL b i (i + 1) 0).length ≤ 1000 := by rw [putL_len]; omega
  have HC1 : Hid (∀ w0 wx, Same W5 w0 → Same w0 wx → Calls Try.prog 23 #[.agg #[.int .u64 (b.length : Int), .slice a2 m2 cap2], .int .u64 (i : Int)] wx (FBits w0 (putL b i (i + 1) 0))) := Lib.hid (fun w0 wx h0 hx => fbits hx (implClear _ b i wx (HBV.out _ (h0.trans hx)) (by omega) (by omega)))
  have HC2 : Hid (∀ w0 wx, Same W5 w0 → Same w0 wx → Calls Try.prog 25 #[.agg #[.int .u64 (b.length : Int), .slice a2 m2 cap2], .int .u64 (i : Int), .bool false] wx (FBits w0 (putL b i (i + 1) 0))) := Lib.hid (fun w0 wx h0 hx => fbits hx (implSetTo _ b i wx (HBV.out _ (h0.trans hx)) (by omega) (by omega)))
  generalize putL b i (i + 1) 0 = d at *
  obtain ⟨W7, hW7, hS7, hB7, hk7⟩ := newBlock w6 #[.int .u64 (d.length : Int), .slice a6 m6 cap6] 33
  rw [← hW7]
  have HS7 : Hid (Same W5 W7) := Lib.hid (Same.trans hO6 hS7)
  have HD : Hid (∀ wx, Same W7 wx → RU wx a6 m6 cap6 (ones d)) := Lib.hid (fun wx hx => hu6.keep (hS7.trans hx) (fun _ _ => id))
  have hb50 := still HS7.out HB5.out
  have d0 : W7.cell? ⟨k5, 0, none⟩ = some (.int .u64 (b.length : Int)) := block_cell hb50 rfl
  have d1 : W7.cell? ⟨k5, 1, none⟩ = some (.slice a2 m2 cap2) := block_cell hb50 rfl
  have e0 : W7.cell? ⟨w6.heap.size, 0, none⟩ = some (.int .u64 (d.length : Int)) := block_cell hB7 rfl
  have e1 : W7.cell? ⟨w6.heap.size, 1, none⟩ = some (.slice a6 m6 cap6) := block_cell hB7 rfl
  have HK : Hid (∀ wx, Same W7 wx → wx.cell? ⟨k5, 0, none⟩ = some (.int .u64 (b.length : Int)) ∧ wx.cell? ⟨k5, 1, none⟩ = some (.slice a2 m2 cap2) ∧ wx.cell? ⟨w6.heap.size, 0, none⟩ = some (.int .u64 (d.length : Int)) ∧ wx.cell? ⟨w6.heap.size, 1, none⟩ = some (.slice a6 m6 cap6)) := Lib.hid (fun wx hx =>
    ⟨block_cell (still hx hb50) rfl, block_cell (still hx hb50) rfl, block_cell (still hx hB7) rfl, block_cell (still hx hB7) rfl⟩)
  generalize w6.heap.size = k7 at *
  clear hu6 hO6 hW7 hS7 hB7 hk7 hb50
  have hwr := wrap_nat i (by omega)
  go_region_held3 (fun w' => w'.cell? ⟨k5, 0, none⟩ = some (.int .u64 (b.length : Int)) ∧ w'.cell? ⟨k5, 1, none⟩ = some (.slice a2 m2 cap2) ∧ w'.cell? ⟨k7, 0, none⟩ = some (.int .u64 (d.length : Int)) ∧ w'.cell? ⟨k7, 1, none⟩ = some (.slice a6 m6 cap6))
    (first | go_keep | (go_split_ands; exact HK.out _ hO13) | (go_split_ands; exact HK.out _ hO12) | (go_split_ands; exact HK.out _ hO11) | (go_split_ands; exact HK.out _ hO10))
    (first | ((go_at_call 23; (with_reducible refine (HC1.out W7 _ HS7.out (by exact (Only.refl _ W7).drew)).mono ?_); rintro e w10 ⟨a10, m10, cap10, rfl, hu10, hO10⟩)) | ((go_at_call 11; (with_reducible refine (bsSame_yes _ _ d _ _ hO10 (BV.mk hu10) (BV.mk (HD.out _ hO10)) (by omega)).mono ?_); rintro e w11 ⟨rfl, hO11⟩)) | ((go_at_call 25; (with_reducible refine (HC2.out W7 _ HS7.out hO11).mono ?_); rintro e w12 ⟨a12, m12, cap12, rfl, hu12, hO12⟩)) | ((go_at_call 24; (with_reducible refine (bsIn_yes _ d _ _ _ _ _ hO12 (BV.mk hu12) (HD.out _ hO12) (by omega)).mono ?_); rintro e w13 ⟨rfl, hO13⟩)))
  go_wp2
  go_ret
  exact ⟨rfl, Only.below (Same.trans HO5.out (Same.trans HS7.out hO13)) (Nat.le_refl _) (fun _ _ => id)⟩

theorem walk (W : World) (v0 v1 : Value) (r0 : Reads Try.prog W 33 v0) (r1 : Reads Try.prog W 22 v1) :
    Calls Try.prog 6 #[v0, v1] W fun e w' => e = .returned (.bool true) ∧ Below W.heap.size W w' := by
  obtain ⟨n, a, m, cap, zs, rfl, hr⟩ := Reads.bits r0
  obtain ⟨p, rfl, hp⟩ := r1.int Try.underlying22
  have hp' := wf_u16 hp
  obtain ⟨P, rfl⟩ := Int.eq_ofNat_of_zero_le hp'.1
  by_cases hm : m ≤ 2147483647
  · exact main n a m cap zs P W hr hm (by omega)
  · have H := Lib.hid (fits_no (n : Int) a m cap)
    clear r0 r1 hr hp hp'
    go_enter Try.func6, Try.ntmps6
    go_wp2_with fail
    refine (H.out _ (by omega)).mono ?_
    rintro e w1 ⟨rfl, hO1⟩
    go_wp2_with fail
    go_ret
    exact ⟨rfl, Only.below (same_alloc hO1) (Nat.le_refl _) (fun _ _ => id)⟩
end Go.Proofs.Ytjmgidedaodlpaa.walkFnBSClear

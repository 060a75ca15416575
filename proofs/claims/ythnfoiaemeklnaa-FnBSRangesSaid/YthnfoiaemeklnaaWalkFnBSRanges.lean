/-
  FnBSRanges: the walk. Setting, and flipping, from one place up to another one does so to each bit between them.
-/
import Derived.Test.YthnfoiaemeklnaaBsRangeI
namespace Go.Proofs.Ythnfoiaemeklnaa.walkFnBSRanges
open Go.RowKit Go.Proofs.Ythnfoiaemeklnaa.base Go.Proofs.Ythnfoiaemeklnaa.heap Go.Proofs.Ythnfoiaemeklnaa.bit Go.Proofs.Ythnfoiaemeklnaa.bs
set_option linter.unusedVariables false

set_option maxRecDepth 100000 in
set_option maxHeartbeats 3200000 in
theorem main (n : Nat) (a : Option Addr) (m cap : Nat) (zs : List Int) (p q : Nat) (w : World) (hr : IsRow .u64 w a m cap zs) (hm : m ≤ 2147483647) (hp : p < 65536) (hq : q < 65536) :
    Calls Try.prog 7 #[.agg #[.int .u64 (n : Int), .slice a m cap], .int .u16 (p : Int), .int .u16 (q : Int)] w fun e w' => e = .returned (.bool true) ∧ Below w.heap.size w w' := by
  have HRow := Lib.hid hr
  clear hr
  obtain ⟨i, hi⟩ : ∃ i : Nat, p % 1000 = i := ⟨_, rfl⟩
  obtain ⟨k, hk⟩ : ∃ k : Nat, q % 1000 = k := ⟨_, rfl⟩
  have hi1 : i < 1000 := by omega
  have hk1 : k < 1000 := by omega
  have HI : Hid ((p : Int) % 1000 = (i : Int)) := Lib.hid (by omega)
  have HK : Hid ((q : Int) % 1000 = (k : Int)) := Lib.hid (by omega)
  clear hi hk
  go_enter Try.func7, Try.ntmps7
  go_wp2_with fail
  refine (fits_yes _ _ _ _ _ hm).mono ?_
  rintro e w1 ⟨rfl, hO1⟩
  have hB0 := boxed hO1
  have hO1 := same_alloc hO1
  have c0 : w1.cell? ⟨w.heap.size, 0, none⟩ = some (.int .u64 (n : Int)) := block_cell hB0 rfl
  have c1 : w1.cell? ⟨w.heap.size, 1, none⟩ = some (.slice a m cap) := block_cell hB0 rfl
  clear hB0
  go_wp2_with fail
  refine (bsBits n a m cap zs _ (IsRow.keep HRow.out hO1) hm).mono ?_
  rintro e w2 ⟨b, hb, a2, m2, cap2, rfl, hu2, hO2, hf2⟩
  have hb4 : b.length ≤ 400 := by omega
  have hO2 := hO1.trans hO2
  clear hO1 hb c0 c1 hf2
  go_wp2_with fail
  obtain ⟨W5, hW5, hS5, hB5, hk5⟩ := newBlock w2 #[.int .u64 (b.length : Int), .slice a2 m2 cap2] 25
  rw [← hW5]
  rw [HI.out, HK.out]
  have hBV : ∀ wx, Same W5 wx → BV wx (.agg #[.int .u64 (b.length : Int), .slice a2 m2 cap2]) b := fun wx hx => BV.mk (hu2.keep (hS5.trans hx) (fun _ _ => id))
  have HBV := Lib.hid hBV
  have HO5 : Hid (Same w W5) := Lib.hid (Same.trans hO2 hS5)
  have HB5 := Lib.hid hB5
  generalize w2.heap.size = k5 at *
  clear hu2 hO2 hBV hW5 hS5 hk5 hB5
  refine (fbools (Only.refl _ W5) (bsBools _ b _ (HBV.out _ (Only.refl _ _)) (by omega))).mono ?_
  rintro e w3 ⟨a3, cap3, rfl, hb3, hO3⟩
  have HB3 := Lib.hid hb3
  have HO3 := Lib.hid hO3
  have hbd := hb3.1.bound
  clear hb3 hO3
  have hl1 := rangeL_len b i k 1
  have hl2 := rangeL_len b i k 2
  have HK5 : Hid (∀ wx, Same W5 wx → wx.cell? ⟨k5, 0, none⟩ = some (.int .u64 (b.length : Int)) ∧ wx.cell? ⟨k5, 1, none⟩ = some (.slice a2 m2 cap2)) := Lib.hid (fun wx hx =>
    ⟨block_cell (still hx HB5.out) rfl, block_cell (still hx HB5.out) rfl⟩)
  have HX : Hid (∀ wx, Same w3 wx → wx.cell? ⟨k5, 0, none⟩ = some (.int .u64 (b.length : Int)) ∧ wx.cell? ⟨k5, 1, none⟩ = some (.slice a2 m2 cap2)) := Lib.hid (fun wx hx => HK5.out wx (Same.trans HO3.out hx))
  have H1 : Hid (∀ wx, Same w3 wx → Calls Try.prog 31 #[.agg #[.int .u64 (b.length : Int), .slice a2 m2 cap2], .int .u64 (i : Int), .int .u64 (k : Int)] wx (FBits wx (rangeL b i k 1))) := Lib.hid (fun wx hx => fbits (Only.refl _ _) (implSetRange _ b i k wx (HBV.out _ (Same.trans HO3.out hx)) (by omega) (by omega)))
  have H2 : Hid (∀ wx, Same w3 wx → Calls Try.prog 33 #[.agg #[.int .u64 (b.length : Int), .slice a2 m2 cap2], .int .u64 (i : Int), .int .u64 (k : Int)] wx (FBits wx (rangeL b i k 2))) := Lib.hid (fun wx hx => fbits (Only.refl _ _) (implFlipRange _ b i k wx (HBV.out _ (Same.trans HO3.out hx)) (by omega) (by omega)))
  have H3 : Hid (∀ wx, Same w3 wx → Calls Try.prog 32 #[.slice a3 b.length cap3, .int .i64 (i : Int), .int .i64 (k : Int), .int .i64 1] wx (FBools wx (rangeL b i k 1))) := Lib.hid (fun wx hx => fbools (Only.refl _ _) (bsPutR1 a3 cap3 b i k wx (HB3.out.keep hx (fun _ _ => id)) (by omega) (by omega) (by omega)))
  have H4 : Hid (∀ wx, Same w3 wx → Calls Try.prog 32 #[.slice a3 b.length cap3, .int .i64 (i : Int), .int .i64 (k : Int), .int .i64 2] wx (FBools wx (rangeL b i k 2))) := Lib.hid (fun wx hx => fbools (Only.refl _ _) (bsPutR2 a3 cap3 b i k wx (HB3.out.keep hx (fun _ _ => id)) (by omega) (by omega) (by omega)))
  generalize rangeL b i k 1 = d1 at *
  generalize rangeL b i k 2 = d2 at *
  obtain ⟨x0, x1⟩ := HX.out w3 (Only.refl _ _)
  have wi := wrap_nat i (by omega)
  have wk := wrap_nat k (by omega)
  have HFIN : Hid (Same w w3) := Lib.hid (Same.trans HO5.out HO3.out)
  clear HBV HB5 HRow HK5 HO3 HO5
  go_wp2_with fail
  refine (H1.out w3 (Only.refl _ _)).mono ?_
  rintro e w4 ⟨a4, m4, cap4, rfl, hu4, hO4⟩
  have HU4 := Lib.hid hu4
  have HO4 := Lib.hid hO4
  clear hu4 hO4 x0 x1
  go_wp2_with fail
  refine (H3.out w4 HO4.out).mono ?_
  rintro e w5 ⟨a5, cap5, rfl, hb5, hO5⟩
  have HB5 := Lib.hid hb5
  have HO5 := Lib.hid hO5
  clear hb5 hO5
  go_wp2_with fail
  refine (fbits (Only.refl _ _) (bsMake a5 cap5 d1 w5 HB5.out (by omega))).mono ?_
  rintro e w6 ⟨a6, m6, cap6, rfl, hu6, hO6⟩
  have HU6 := Lib.hid hu6
  have HO6 := Lib.hid hO6
  clear hu6 hO6
  go_wp2_with fail
  refine (bsSame_yes _ _ d1 w6 w6 (Only.refl _ _) (BV.mk (HU4.out.keep (Same.trans HO5.out HO6.out) (fun _ _ => id))) (BV.mk HU6.out) (by omega)).mono ?_
  rintro e w7 ⟨rfl, hO7⟩
  have HO7 : Hid (Same w3 w7) := Lib.hid (Same.trans HO4.out (Same.trans HO5.out (Same.trans HO6.out hO7)))
  obtain ⟨x0, x1⟩ := HX.out w7 HO7.out
  clear hO7 HU4 HO4 HB5 HO5 HU6 HO6
  go_wp2_with fail
  refine (H2.out w7 HO7.out).mono ?_
  rintro e w8 ⟨a8, m8, cap8, rfl, hu8, hO8⟩
  have HU8 := Lib.hid hu8
  have HO8 : Hid (Same w3 w8) := Lib.hid (Same.trans HO7.out hO8)
  clear hu8 hO8 x0 x1
  go_wp2_with fail
  refine (H4.out w8 HO8.out).mono ?_
  rintro e w9 ⟨a9, cap9, rfl, hb9, hO9⟩
  have HB9 := Lib.hid hb9
  have HO9 := Lib.hid hO9
  clear hb9 hO9
  go_wp2_with fail
  refine (fbits (Only.refl _ _) (bsMake a9 cap9 d2 w9 HB9.out (by omega))).mono ?_
  rintro e w10 ⟨a10, m10, cap10, rfl, hu10, hO10⟩
  have HU10 := Lib.hid hu10
  have HO10 := Lib.hid hO10
  clear hu10 hO10
  go_wp2_with fail
  refine (bsSame_yes _ _ d2 w10 w10 (Only.refl _ _) (BV.mk (HU8.out.keep (Same.trans HO9.out HO10.out) (fun _ _ => id))) (BV.mk HU10.out) (by omega)).mono ?_
  rintro e w11 ⟨rfl, hO11⟩
  have HO11 : Hid (Same w w11) := Lib.hid (Same.trans HFIN.out (Same.trans HO8.out (Same.trans HO9.out (Same.trans HO10.out hO11))))
  clear hO11
  go_wp2_with fail
  go_ret
  exact ⟨rfl, Only.below HO11.out (Nat.le_refl _) (fun _ _ => id)⟩

theorem walk (W : World) (v0 v1 v2 : Value) (r0 : Reads Try.prog W 25 v0) (r1 : Reads Try.prog W 30 v1) (r2 : Reads Try.prog W 30 v2) :
    Calls Try.prog 7 #[v0, v1, v2] W fun e w' => e = .returned (.bool true) ∧ Below W.heap.size W w' := by
  obtain ⟨n, a, m, cap, zs, rfl, hr⟩ := Reads.bits r0
  obtain ⟨p, rfl, hp⟩ := r1.int Try.underlying30
  have hp' := wf_u16 hp
  obtain ⟨P, rfl⟩ := Int.eq_ofNat_of_zero_le hp'.1
  obtain ⟨q, rfl, hq⟩ := r2.int Try.underlying30
  have hq' := wf_u16 hq
  obtain ⟨Q, rfl⟩ := Int.eq_ofNat_of_zero_le hq'.1
  by_cases hm : m ≤ 2147483647
  · exact main n a m cap zs P Q W hr hm (by omega) (by omega)
  · have H := Lib.hid (fits_no (n : Int) a m cap)
    clear r0 r1 r2 hr hp hp' hq hq'
    go_enter Try.func7, Try.ntmps7
    go_wp2_with fail
    refine (H.out _ (by omega)).mono ?_
    rintro e w1 ⟨rfl, hO1⟩
    go_wp2_with fail
    go_ret
    exact ⟨rfl, Only.below (same_alloc hO1) (Nat.le_refl _) (fun _ _ => id)⟩
end Go.Proofs.Ythnfoiaemeklnaa.walkFnBSRanges

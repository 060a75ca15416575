/-
  FnBSAsks: the walk. Whether a bit is set, how many are, and whether all, any or none are.
-/
import Derived.Test.YthnfoiaemeklnaaBsAsk
import Derived.Deep.RegionHeld3
namespace Go.Proofs.Ythnfoiaemeklnaa.walkFnBSAsks
open Go.RowKit Go.Proofs.Ythnfoiaemeklnaa.base Go.Proofs.Ythnfoiaemeklnaa.heap Go.Proofs.Ythnfoiaemeklnaa.bit Go.Proofs.Ythnfoiaemeklnaa.bs
set_option linter.unusedVariables false

set_option maxRecDepth 100000 in
set_option maxHeartbeats 3200000 in
theorem main (n : Nat) (a : Option Addr) (m cap : Nat) (zs : List Int) (p : Nat) (w : World) (hr : IsRow .u64 w a m cap zs) (hm : m ≤ 2147483647) (hp : p < 65536) :
    Calls Try.prog 4 #[.agg #[.int .u64 (n : Int), .slice a m cap], .int .u16 (p : Int)] w fun e w' => e = .returned (.bool true) ∧ Below w.heap.size w w' := by
  have HRow := Lib.hid hr
  clear hr
  go_enter Try.func4, Try.ntmps4
  go_wp2_with fail
  refine (fits_yes _ _ _ _ _ hm).mono ?_
  rintro e w1 ⟨rfl, hO1⟩
  have hB0 := boxed hO1
  have hO1 := same_alloc hO1
  have c0 : w1.cell? ⟨w.heap.size, 0, none⟩ = some (.int .u64 (n : Int)) := block_cell hB0 rfl
  have c1 : w1.cell? ⟨w.heap.size, 1, none⟩ = some (.slice a m cap) := block_cell hB0 rfl
  clear hB0
  go_wp2_with fail
  refine (bsBits n a m cap zs _ (IsRow.keep HRow.out hO1) hm).mono ?_
  rintro e w2 ⟨b, hb, a2, m2, cap2, rfl, hu2, hO2, hf2⟩
  have hb4 : b.length ≤ 400 := by omega
  have hO2 := hO1.trans hO2
  obtain ⟨i, hi⟩ : ∃ i : Nat, p % 1000 = i := ⟨_, rfl⟩
  have hi1 : i < 1000 := by rw [← hi]; exact Nat.mod_lt _ (by omega)
  have HI : Hid ((p : Int) % 1000 = (i : Int)) := Lib.hid (by omega)
  clear hO1 hb c0 c1 hf2 hi
  go_wp2_with fail
  obtain ⟨W5, hW5, hS5, hB5, hk5⟩ := newBlock w2 #[.int .u64 (b.length : Int), .slice a2 m2 cap2] 25
  rw [← hW5]
  rw [HI.out]
  have hBV : ∀ wx, Same W5 wx → BV wx (.agg #[.int .u64 (b.length : Int), .slice a2 m2 cap2]) b := fun wx hx => BV.mk (hu2.keep (hS5.trans hx) (fun _ _ => id))
  have HBV := Lib.hid hBV
  have HO5 : Hid (Same w W5) := Lib.hid (Same.trans hO2 hS5)
  have HB5 := Lib.hid hB5
  have HS5 := Lib.hid hS5
  generalize w2.heap.size = k5 at *
  clear hu2 hO2 hBV hW5 hS5 hk5 hB5
  have HC1 : Hid (∀ w0 wx, Same W5 w0 → Same w0 wx → Calls Try.prog 15 #[.agg #[.int .u64 (b.length : Int), .slice a2 m2 cap2]] wx (FBools w0 b)) := Lib.hid (fun w0 wx h0 hx => fbools hx (bsBools _ b wx (HBV.out _ (h0.trans hx)) (by omega)))
  refine (HC1.out W5 _ (Only.refl _ W5) (Only.refl _ W5)).mono ?_
  rintro e w3 ⟨a3, cap3, rfl, hb3, hO3⟩
  have HCNT := Lib.hid (bsCount a3 cap3 b w3 hb3 (by omega))
  have HOF := Lib.hid (fun wx (hx : Same w3 wx) => bsOf a3 cap3 b i wx (hb3.keep hx (fun _ _ => id)) (by omega) (by omega))
  have HO3 := Lib.hid hO3
  have hbd := hb3.1.bound
  clear hb3 hO3 HC1
  go_wp2_with fail
  refine HCNT.out.mono ?_
  rintro e w4 ⟨rfl, rfl⟩
  go_wp2_with fail
  have HT : Hid (∀ wx, Same w4 wx → Calls Try.prog 17 #[.agg #[.int .u64 (b.length : Int), .slice a2 m2 cap2], .int .u64 (i : Int)] wx (FV w4 (.bool (b.getD i false)))) := Lib.hid (fun wx hx => fv hx (implTest _ b i wx (HBV.out _ (Same.trans HO3.out hx)) (by omega) (by omega)))
  have HOF2 : Hid (∀ wx, Same w4 wx → Calls Try.prog 18 #[.slice a3 b.length cap3, .int .i64 (i : Int)] wx (FV w4 (.bool (b.getD i false)))) := Lib.hid (fun wx hx => fsame hx (HOF.out wx hx))
  have HCO : Hid (∀ wx, Same w4 wx → Calls Try.prog 19 #[.agg #[.int .u64 (b.length : Int), .slice a2 m2 cap2]] wx (FV w4 (.int .u64 ((ones b).length : Int)))) := Lib.hid (fun wx hx => fv hx (implCount _ b wx (HBV.out _ (Same.trans HO3.out hx)) (by omega)))
  have HLE : Hid (∀ wx, Same w4 wx → Calls Try.prog 20 #[.agg #[.int .u64 (b.length : Int), .slice a2 m2 cap2]] wx (FV w4 (.int .u64 (b.length : Int)))) := Lib.hid (fun wx hx => fv hx (implLen _ b wx (HBV.out _ (Same.trans HO3.out hx)) (by omega)))
  have HAN : Hid (∀ wx, Same w4 wx → Calls Try.prog 21 #[.agg #[.int .u64 (b.length : Int), .slice a2 m2 cap2]] wx (FV w4 (.bool (!noBits b)))) := Lib.hid (fun wx hx => fv hx (implAny _ b wx (HBV.out _ (Same.trans HO3.out hx)) (by omega)))
  have HNO : Hid (∀ wx, Same w4 wx → Calls Try.prog 22 #[.agg #[.int .u64 (b.length : Int), .slice a2 m2 cap2]] wx (FV w4 (.bool (noBits b)))) := Lib.hid (fun wx hx => fv hx (implNone _ b wx (HBV.out _ (Same.trans HO3.out hx)) (by omega)))
  have HAL : Hid (∀ wx, Same w4 wx → Calls Try.prog 23 #[.agg #[.int .u64 (b.length : Int), .slice a2 m2 cap2]] wx (FV w4 (.bool (((ones b).length : Int) == (b.length : Int))))) := Lib.hid (fun wx hx => fv hx (implAll _ b wx (HBV.out _ (Same.trans HO3.out hx)) (by omega)))
  have HK : Hid (∀ wx, Same w4 wx → wx.cell? ⟨k5, 0, none⟩ = some (.int .u64 (b.length : Int)) ∧ wx.cell? ⟨k5, 1, none⟩ = some (.slice a2 m2 cap2)) := Lib.hid (fun wx hx =>
    ⟨block_cell (still (Same.trans HO3.out hx) HB5.out) rfl, block_cell (still (Same.trans HO3.out hx) HB5.out) rfl⟩)
  have HFIN : Hid (Same w w4) := Lib.hid (Same.trans HO5.out HO3.out)
  have hnb : (noBits b = true ∧ (ones b).length = 0) ∨ (noBits b = false ∧ 0 < (ones b).length) := by
    unfold noBits
    by_cases h : (ones b).length = 0
    · exact .inl ⟨decide_eq_true h, h⟩
    · exact .inr ⟨decide_eq_false h, by omega⟩
  clear HBV HB5 HO5 HO3 HCNT HOF HRow
  obtain ⟨d0, d1⟩ := HK.out _ (Only.refl _ w4)
  have hwi : IntKind.u64.wrap (i : Int) = (i : Int) := by rw [IntKind.wrap_u64]; omega
  rcases hnb with ⟨h1, h2⟩ | ⟨h1, h2⟩
  all_goals
    rw [h1] at HAN HNO
    generalize (ones b).length = y at *
    generalize b.getD i false = z at *
    clear h1
    have hz : (z == z) = true := by simp
    have hyy : ((y : Int) == (y : Int)) = true := by simp
    have hll : ((b.length : Int) == (b.length : Int)) = true := by simp
  · have hgt : decide ((0 : Int) < (y : Int)) = false := by simp; omega
    have heq : ((y : Int) == 0) = true := by simp; omega
    have hgt2 : decide (0 < y) = false := by simp; omega
    have hgt3 : ¬ 0 < y := by omega
    have hgt4 : ¬ (0 : Int) < (y : Int) := by omega
    have hgt5 : (y == 0) = true := by simp; omega
    generalize hal : ((y : Int) == (b.length : Int)) = q at *
    have hqq : (q == q) = true := by simp
    clear h2
    go_region_held3 (fun w' => w'.cell? ⟨k5, 0, none⟩ = some (.int .u64 (b.length : Int)) ∧ w'.cell? ⟨k5, 1, none⟩ = some (.slice a2 m2 cap2))
      (first | exact HK.out _ (Only.drew (Only.refl _ _)) | exact HK.out _ (by assumption))
      (first | ((go_at_call 17; (with_reducible refine (HT.out _ (by first | assumption | exact (Only.refl _ _).drew)).mono ?_); rintro e w9 ⟨rfl, hO9⟩)) | ((go_at_call 18; (with_reducible refine (HOF2.out _ (by assumption)).mono ?_); rintro e w9 ⟨rfl, hO9⟩)) | ((go_at_call 19; (with_reducible refine (HCO.out _ (by assumption)).mono ?_); rintro e w9 ⟨rfl, hO9⟩)) | ((go_at_call 20; (with_reducible refine (HLE.out _ (by assumption)).mono ?_); rintro e w9 ⟨rfl, hO9⟩)) | ((go_at_call 21; (with_reducible refine (HAN.out _ (by assumption)).mono ?_); rintro e w9 ⟨rfl, hO9⟩)) | ((go_at_call 22; (with_reducible refine (HNO.out _ (by assumption)).mono ?_); rintro e w9 ⟨rfl, hO9⟩)) | ((go_at_call 23; (with_reducible refine (HAL.out _ (by assumption)).mono ?_); rintro e w9 ⟨rfl, hO9⟩)))
    all_goals
      go_wp2
      go_ret
      exact ⟨rfl, Only.below (Same.trans HFIN.out hO9) (Nat.le_refl _) (fun _ _ => id)⟩
  · have hgt : decide ((0 : Int) < (y : Int)) = true := by simp; omega
    have heq : ((y : Int) == 0) = false := by simp; omega
    have hgt2 : decide (0 < y) = true := by simp; omega
    have hgt3 : 0 < y := by omega
    have hgt4 : (0 : Int) < (y : Int) := by omega
    have hgt5 : (y == 0) = false := by simp; omega
    generalize hal : ((y : Int) == (b.length : Int)) = q at *
    have hqq : (q == q) = true := by simp
    clear h2
    go_region_held3 (fun w' => w'.cell? ⟨k5, 0, none⟩ = some (.int .u64 (b.length : Int)) ∧ w'.cell? ⟨k5, 1, none⟩ = some (.slice a2 m2 cap2))
      (first | exact HK.out _ (Only.drew (Only.refl _ _)) | exact HK.out _ (by assumption))
      (first | ((go_at_call 17; (with_reducible refine (HT.out _ (by first | assumption | exact (Only.refl _ _).drew)).mono ?_); rintro e w9 ⟨rfl, hO9⟩)) | ((go_at_call 18; (with_reducible refine (HOF2.out _ (by assumption)).mono ?_); rintro e w9 ⟨rfl, hO9⟩)) | ((go_at_call 19; (with_reducible refine (HCO.out _ (by assumption)).mono ?_); rintro e w9 ⟨rfl, hO9⟩)) | ((go_at_call 20; (with_reducible refine (HLE.out _ (by assumption)).mono ?_); rintro e w9 ⟨rfl, hO9⟩)) | ((go_at_call 21; (with_reducible refine (HAN.out _ (by assumption)).mono ?_); rintro e w9 ⟨rfl, hO9⟩)) | ((go_at_call 22; (with_reducible refine (HNO.out _ (by assumption)).mono ?_); rintro e w9 ⟨rfl, hO9⟩)) | ((go_at_call 23; (with_reducible refine (HAL.out _ (by assumption)).mono ?_); rintro e w9 ⟨rfl, hO9⟩)))
    all_goals
      go_wp2
      go_ret
      exact ⟨rfl, Only.below (Same.trans HFIN.out hO9) (Nat.le_refl _) (fun _ _ => id)⟩

theorem walk (W : World) (v0 v1 : Value) (r0 : Reads Try.prog W 25 v0) (r1 : Reads Try.prog W 30 v1) :
    Calls Try.prog 4 #[v0, v1] W fun e w' => e = .returned (.bool true) ∧ Below W.heap.size W w' := by
  obtain ⟨n, a, m, cap, zs, rfl, hr⟩ := Reads.bits r0
  obtain ⟨p, rfl, hp⟩ := r1.int Try.underlying30
  have hp' := wf_u16 hp
  obtain ⟨P, rfl⟩ := Int.eq_ofNat_of_zero_le hp'.1
  by_cases hm : m ≤ 2147483647
  · exact main n a m cap zs P W hr hm (by omega)
  · have H := Lib.hid (fits_no (n : Int) a m cap)
    clear r0 r1 hr hp hp'
    go_enter Try.func4, Try.ntmps4
    go_wp2_with fail
    refine (H.out _ (by omega)).mono ?_
    rintro e w1 ⟨rfl, hO1⟩
    go_wp2_with fail
    go_ret
    exact ⟨rfl, Only.below (same_alloc hO1) (Nat.le_refl _) (fun _ _ => id)⟩
end Go.Proofs.Ythnfoiaemeklnaa.walkFnBSAsks

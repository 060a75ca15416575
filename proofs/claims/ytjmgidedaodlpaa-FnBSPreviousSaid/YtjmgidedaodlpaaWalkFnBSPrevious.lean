/-
  FnBSPrevious: the walk.
-/
import Derived.Test.YtjmgidedaodlpaaBsImpl5
import Derived.Test.YtjmgidedaodlpaaBsLaw
import Derived.Deep.RegionHeld3
namespace Go.Proofs.Ytjmgidedaodlpaa.walkFnBSPrevious
open Go.RowKit Go.Proofs.Ytjmgidedaodlpaa.base Go.Proofs.Ytjmgidedaodlpaa.heap Go.Proofs.Ytjmgidedaodlpaa.bit Go.Proofs.Ytjmgidedaodlpaa.bs
set_option linter.unusedVariables false

set_option maxRecDepth 100000 in
set_option maxHeartbeats 3200000 in
theorem main (n : Nat) (a : Option Addr) (m cap : Nat) (zs : List Int) (p : Nat) (w : World) (hr : IsRow .u64 w a m cap zs) (hm : m ≤ 2147483647) (hp : p < 65536) :
    Calls Try.prog 8 #[.agg #[.int .u64 (n : Int), .slice a m cap], .int .u16 (p : Int)] w fun e w' => e = .returned (.bool true) ∧ Below w.heap.size w w' := by

  have HRow := Lib.hid hr
  clear hr
  go_enter Try.func8, Try.ntmps8
  go_wp2_with fail
  refine (fits_yes _ _ _ _ _ hm).mono ?_
  rintro e w1 ⟨rfl, hO1⟩
  have hB0 := boxed hO1
  have hO1 := same_alloc hO1
  have c0 : w1.cell? ⟨w.heap.size, 0, none⟩ = some (.int .u64 (n : Int)) := block_cell hB0 rfl
  have c1 : w1.cell? ⟨w.heap.size, 1, none⟩ = some (.slice a m cap) := block_cell hB0 rfl
  clear hB0
  go_wp2_with fail
  refine (bsBits n a m cap zs _ (IsRow.keep HRow.out hO1) hm).mono ?_
  rintro e w2 ⟨b, hb, a2, m2, cap2, rfl, hu2, hO2, hf2⟩
  have hb4 : b.length ≤ 400 := by omega
  have hO2 := hO1.trans hO2
  clear hO1 hb c0 c1 hf2
  by_cases hz : b.length = 0
  · rw [hz]
    go_wp2_with fail
    obtain ⟨W5, hW5, hS5, hB5, hk5⟩ := newBlock w2 #[.int .u64 0, .slice a2 m2 cap2] 33
    rw [← hW5]
    go_ret
    exact ⟨rfl, Only.below (Same.trans hO2 hS5) (Nat.le_refl _) (fun _ _ => id)⟩
  obtain ⟨i, hi⟩ : ∃ i : Nat, p % b.length = i := ⟨_, rfl⟩
  have hi1 : i < b.length := by rw [← hi]; exact Nat.mod_lt _ (by omega)
  have HI : Hid ((p : Int) % (b.length : Int) = (i : Int)) := Lib.hid (by rw [← hi]; exact (Int.natCast_emod p b.length).symm)
  have hz' : ¬ (b.length : Int) = 0 := by omega
  clear hi
  go_wp2_with fail
  obtain ⟨W5, hW5, hS5, hB5, hk5⟩ := newBlock w2 #[.int .u64 (b.length : Int), .slice a2 m2 cap2] 33
  rw [← hW5]
  have hBV : ∀ wx, Same W5 wx → BV wx (.agg #[.int .u64 (b.length : Int), .slice a2 m2 cap2]) b := fun wx hx => BV.mk (hu2.keep (hS5.trans hx) (fun _ _ => id))
  have HBV := Lib.hid hBV
  have HO5 : Hid (Same w W5) := Lib.hid (Same.trans hO2 hS5)
  have HB5 := Lib.hid hB5
  generalize w2.heap.size = k5 at *
  clear hu2 hO2 hBV hW5 hS5 hk5 hB5
  refine (fbools (Only.refl _ W5) (bsBools _ b _ (HBV.out _ (Only.refl _ _)) (by omega))).mono ?_
  rintro e w3 ⟨a3, cap3, rfl, hb3, hO3⟩
  rw [HI.out]
  have hb5 := still hO3 HB5.out
  have d0 : w3.cell? ⟨k5, 0, none⟩ = some (.int .u64 (b.length : Int)) := block_cell hb5 rfl
  have d1 : w3.cell? ⟨k5, 1, none⟩ = some (.slice a2 m2 cap2) := block_cell hb5 rfl
  have HB3 := Lib.hid hb3
  have HO3 := Lib.hid hO3
  obtain ⟨R1, hR1⟩ : ∃ R, Hid (lastTo (fun q => b.getD q false == true) (i + 1) = R) := ⟨_, Lib.hid rfl⟩
  obtain ⟨R2, hR2⟩ : ∃ R, Hid (lastTo (fun q => b.getD q false == false) (i + 1) = R) := ⟨_, Lib.hid rfl⟩
  clear hb5 hb3 hO3
  go_wp2_with fail
  refine (implPreviousSet _ b i R1 _ (HBV.out _ HO3.out) (by omega) hi1 hR1).mono ?_
  rintro e w4 ⟨rfl, hO4⟩
  have HO4 : Hid (Same W5 w4) := Lib.hid (Same.trans HO3.out hO4)
  have hb5 := still HO4.out HB5.out
  have d0 : w4.cell? ⟨k5, 0, none⟩ = some (.int .u64 (b.length : Int)) := block_cell hb5 rfl
  have d1 : w4.cell? ⟨k5, 1, none⟩ = some (.slice a2 m2 cap2) := block_cell hb5 rfl
  have HB4 : Hid (RB w4 a3 b.length cap3 b) := Lib.hid (HB3.out.keep hO4 (fun _ _ => id))
  clear hb5 hO4
  go_wp2_with fail
  refine (implPreviousClear _ b i R2 _ (HBV.out _ HO4.out) (by omega) hi1 hR2).mono ?_
  rintro e w6 ⟨rfl, hO6⟩
  have HO6 : Hid (Same W5 w6) := Lib.hid (Same.trans HO4.out hO6)
  have HB6 : Hid (RB w6 a3 b.length cap3 b) := Lib.hid (HB4.out.keep hO6 (fun _ _ => id))
  clear hO6 d0 d1
  go_wp2_with fail
  refine (bsLast a3 b.length cap3 b i true R1 w6 HB6.out hi1 (by omega) hR1).mono ?_
  rintro e w7 ⟨rfl, rfl⟩
  go_wp2_with fail
  refine (bsLast a3 b.length cap3 b i false R2 _ HB6.out hi1 (by omega) hR2).mono ?_
  rintro e w8 ⟨rfl, rfl⟩
  clear hR1 hR2
  cases R1 <;> cases R2
  all_goals
    go_wp2_with fail
    go_ret
    exact ⟨rfl, Only.below (Same.trans HO5.out HO6.out) (Nat.le_refl _) (fun _ _ => id)⟩

theorem walk (W : World) (v0 v1 : Value) (r0 : Reads Try.prog W 33 v0) (r1 : Reads Try.prog W 22 v1) :
    Calls Try.prog 8 #[v0, v1] W fun e w' => e = .returned (.bool true) ∧ Below W.heap.size W w' := by
  obtain ⟨n, a, m, cap, zs, rfl, hr⟩ := Reads.bits r0
  obtain ⟨p, rfl, hp⟩ := r1.int Try.underlying22
  have hp' := wf_u16 hp
  obtain ⟨P, rfl⟩ := Int.eq_ofNat_of_zero_le hp'.1
  by_cases hm : m ≤ 2147483647
  · exact main n a m cap zs P W hr hm (by omega)
  · have H := Lib.hid (fits_no (n : Int) a m cap)
    clear r0 r1 hr hp hp'
    go_enter Try.func8, Try.ntmps8
    go_wp2_with fail
    refine (H.out _ (by omega)).mono ?_
    rintro e w1 ⟨rfl, hO1⟩
    go_wp2_with fail
    go_ret
    exact ⟨rfl, Only.below (same_alloc hO1) (Nat.le_refl _) (fun _ _ => id)⟩
end Go.Proofs.Ytjmgidedaodlpaa.walkFnBSPrevious

/-
  FnBSSelect: the walk.
-/
import Derived.Test.YtmadpemagfbmlaaBsSel2
import Derived.Test.YtmadpemagfbmlaaBsLaw
namespace Go.Proofs.Ytmadpemagfbmlaa.walkFnBSSelect
open Go.RowKit Go.Proofs.Ytmadpemagfbmlaa.base Go.Proofs.Ytmadpemagfbmlaa.heap Go.Proofs.Ytmadpemagfbmlaa.bit Go.Proofs.Ytmadpemagfbmlaa.bs
set_option linter.unusedVariables false

set_option maxRecDepth 100000 in
set_option maxHeartbeats 3200000 in
theorem main (n : Nat) (a : Option Addr) (m cap : Nat) (zs : List Int) (p : Nat) (w : World) (hr : IsRow .u64 w a m cap zs) (hm : m ≤ 2147483647) (hp : p < 65536) :
    Calls Try.prog 4 #[.agg #[.int .u64 (n : Int), .slice a m cap], .int .u16 (p : Int)] w fun e w' => e = .returned (.bool true) ∧ Below w.heap.size w w' := by
  have HRow := Lib.hid hr
  clear hr
  go_enter Try.func4, Try.ntmps4
  go_wp2_with fail
  refine (fits_yes _ _ _ _ _ hm).mono ?_
  rintro e w1 ⟨rfl, hO1⟩
  have hB0 := boxed hO1
  have hO1 := same_alloc hO1
  have c0 : w1.cell? ⟨w.heap.size, 0, none⟩ = some (.int .u64 (n : Int)) := block_cell hB0 rfl
  have c1 : w1.cell? ⟨w.heap.size, 1, none⟩ = some (.slice a m cap) := block_cell hB0 rfl
  clear hB0
  go_wp2_with fail
  refine (bsBits n a m cap zs _ (IsRow.keep HRow.out hO1) hm).mono ?_
  rintro e w2 ⟨b, hb, a2, m2, cap2, rfl, hu2, hO2, hf2⟩
  have hb4 : b.length ≤ 400 := by omega
  have hO2 := hO1.trans hO2
  obtain ⟨i, hi⟩ : ∃ i : Nat, p % 500 = i := ⟨_, rfl⟩
  have hi1 : i < 500 := by rw [← hi]; exact Nat.mod_lt _ (by omega)
  have HI : Hid ((p : Int) % 500 = (i : Int)) := Lib.hid (by omega)
  clear hO1 hb c0 c1 hf2 hi
  go_upto_region 4 with fail
  obtain ⟨W5, hW5, hS5, hB5, hk5⟩ := newBlock w2 #[.int .u64 (b.length : Int), .slice a2 m2 cap2] 25
  rw [← hW5]
  rw [HI.out]
  have hBV : ∀ wx, Same W5 wx → BV wx (.agg #[.int .u64 (b.length : Int), .slice a2 m2 cap2]) b := fun wx hx => BV.mk (hu2.keep (hS5.trans hx) (fun _ _ => id))
  have HBV := Lib.hid hBV
  have HO5 : Hid (Same w W5) := Lib.hid (Same.trans hO2 hS5)
  have HU5 : Hid (RU W5 a2 m2 cap2 (ones b)) := Lib.hid (hu2.keep hS5 (fun _ _ => id))
  have HL : Hid ((ones b).length = m2) := Lib.hid hu2.2
  have HB5 := Lib.hid hB5
  generalize w2.heap.size = k5 at *
  clear hu2 hO2 hBV hW5 hS5 hk5 hB5
  have d0 : W5.cell? ⟨k5, 0, none⟩ = some (.int .u64 (b.length : Int)) := block_cell HB5.out rfl
  have d1 : W5.cell? ⟨k5, 1, none⟩ = some (.slice a2 m2 cap2) := block_cell HB5.out rfl
  have hmb : m2 ≤ 400 := by have := HL.out; have := ones_le b; omega
  go_wp2_with fail
  refine (implSelect _ b i _ (HBV.out _ (Only.refl _ _)) (by omega) (by omega)).mono ?_
  rintro e w3 ⟨R, hRb, hR, rfl, hO3⟩
  have hb5 := still hO3 HB5.out
  have x0 : w3.cell? ⟨k5, 0, none⟩ = some (.int .u64 (b.length : Int)) := block_cell hb5 rfl
  have x1 : w3.cell? ⟨k5, 1, none⟩ = some (.slice a2 m2 cap2) := block_cell hb5 rfl
  have HO3 := Lib.hid hO3
  have HU3 : Hid (RU w3 a2 m2 cap2 (ones b)) := Lib.hid (HU5.out.keep hO3 (fun _ _ => id))
  clear d0 d1 hb5 hO3
  by_cases him : i < m2
  · have hR2 : R = (ones b).getD i 0 ∧ (onesTo b (R + 1)).length = i + 1 := by
      rcases hR with h | h
      · exact h.2
      · have := HL.out; omega
    obtain ⟨hR3, hR4⟩ := hR2
    obtain ⟨ab, off, rfl, hab, hac⟩ := HU3.out.at (by omega)
    have y0 := hac i him
    rw [← hR3] at y0
    have HK := Lib.hid (implRank _ b R w3 (HBV.out _ HO3.out) (by omega) hRb)
    rw [hR4] at HK
    have him' : (i : Int) < (m2 : Int) := by omega
    clear hac hR hR3 hR4 hab
    go_wp2_with (go_at_call 13; (with_reducible refine HK.out.mono ?_); rintro e w4 ⟨rfl, hO4⟩)
    go_ret
    exact ⟨rfl, Only.below (Same.trans HO5.out (Same.trans HO3.out hO4)) (Nat.le_refl _) (fun _ _ => id)⟩
  · have hR2 : R = b.length := by
      rcases hR with h | h
      · have := HL.out; omega
      · exact h.2
    have him' : ¬ (i : Int) < (m2 : Int) := by omega
    clear hR
    subst hR2
    go_wp2_with fail
    go_ret
    exact ⟨rfl, Only.below (Same.trans HO5.out HO3.out) (Nat.le_refl _) (fun _ _ => id)⟩

theorem walk (W : World) (v0 v1 : Value) (r0 : Reads Try.prog W 25 v0) (r1 : Reads Try.prog W 26 v1) :
    Calls Try.prog 4 #[v0, v1] W fun e w' => e = .returned (.bool true) ∧ Below W.heap.size W w' := by
  obtain ⟨n, a, m, cap, zs, rfl, hr⟩ := Reads.bits r0
  obtain ⟨p, rfl, hp⟩ := r1.int Try.underlying26
  have hp' := wf_u16 hp
  obtain ⟨P, rfl⟩ := Int.eq_ofNat_of_zero_le hp'.1
  by_cases hm : m ≤ 2147483647
  · exact main n a m cap zs P W hr hm (by omega)
  · have H := Lib.hid (fits_no (n : Int) a m cap)
    clear r0 r1 hr hp hp'
    go_enter Try.func4, Try.ntmps4
    go_wp2_with fail
    refine (H.out _ (by omega)).mono ?_
    rintro e w1 ⟨rfl, hO1⟩
    go_wp2_with fail
    go_ret
    exact ⟨rfl, Only.below (same_alloc hO1) (Nat.le_refl _) (fun _ _ => id)⟩
end Go.Proofs.Ytmadpemagfbmlaa.walkFnBSSelect

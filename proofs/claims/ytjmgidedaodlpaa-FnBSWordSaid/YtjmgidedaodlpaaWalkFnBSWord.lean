/-
  FnBSWord: the walk.
-/
import Derived.Test.YtjmgidedaodlpaaBsImpl3
namespace Go.Proofs.Ytjmgidedaodlpaa.walkFnBSWord
open Go.RowKit Go.Proofs.Ytjmgidedaodlpaa.base Go.Proofs.Ytjmgidedaodlpaa.heap Go.Proofs.Ytjmgidedaodlpaa.bit Go.Proofs.Ytjmgidedaodlpaa.bs
set_option linter.unusedVariables false

set_option maxRecDepth 100000 in
set_option maxHeartbeats 3200000 in
theorem main (n : Nat) (a : Option Addr) (m cap : Nat) (zs : List Int) (p : Nat) (w : World) (hr : IsRow .u64 w a m cap zs) (hm : m ≤ 2147483647) (hp : p < 65536) :
    Calls Try.prog 4 #[.agg #[.int .u64 (n : Int), .slice a m cap], .int .u16 (p : Int)] w fun e w' => e = .returned (.bool true) ∧ Below w.heap.size w w' := by
  obtain ⟨i, hi⟩ : ∃ i : Nat, p % 500 = i := ⟨_, rfl⟩
  have hi1 : i < 500 := by omega
  have HI : Hid ((p : Int) % 500 = (i : Int)) := Lib.hid (by omega)
  clear hi
  have HRow := Lib.hid hr
  clear hr
  go_enter Try.func4, Try.ntmps4
  go_wp2_with fail
  refine (fits_yes _ _ _ _ _ hm).mono ?_
  rintro e w1 ⟨rfl, hO1⟩
  have hB0 := boxed hO1
  have hO1 := same_alloc hO1
  have c0 : w1.cell? ⟨w.heap.size, 0, none⟩ = some (.int .u64 (n : Int)) := block_cell hB0 rfl
  have c1 : w1.cell? ⟨w.heap.size, 1, none⟩ = some (.slice a m cap) := block_cell hB0 rfl
  clear hB0
  go_wp2_with fail
  refine (bsBits n a m cap zs _ (IsRow.keep HRow.out hO1) hm).mono ?_
  rintro e w2 ⟨b, hb, a2, m2, cap2, rfl, hu2, hO2, hf2⟩
  have hb4 : b.length ≤ 400 := by omega
  have hO2 := hO1.trans hO2
  clear hO1 hb c0 c1 hf2
  go_wp2_with fail
  obtain ⟨W5, hW5, hS5, hB5, hk5⟩ := newBlock w2 #[.int .u64 (b.length : Int), .slice a2 m2 cap2] 33
  rw [← hW5]
  have hBV : ∀ wx, Same W5 wx → BV wx (.agg #[.int .u64 (b.length : Int), .slice a2 m2 cap2]) b := fun wx hx => BV.mk (hu2.keep (hS5.trans hx) (fun _ _ => id))
  have HBV := Lib.hid hBV
  have HO5 : Hid (Same w W5) := Lib.hid (Same.trans hO2 hS5)
  have HB5 := Lib.hid hB5
  generalize w2.heap.size = k5 at *
  clear hu2 hO2 hBV hW5 hS5 hk5 hB5
  rw [HI.out]
  refine (fbools (Only.refl _ W5) (bsBools _ b _ (HBV.out _ (Only.refl _ _)) (by omega))).mono ?_
  rintro e w3 ⟨a3, cap3, rfl, hb3, hO3⟩
  have hb50 := still hO3 HB5.out
  have d0 : w3.cell? ⟨k5, 0, none⟩ = some (.int .u64 (b.length : Int)) := block_cell hb50 rfl
  have d1 : w3.cell? ⟨k5, 1, none⟩ = some (.slice a2 m2 cap2) := block_cell hb50 rfl
  have HB3 := Lib.hid hb3
  have HO3 := Lib.hid hO3
  clear hb50 hb3 hO3
  go_wp2_with fail
  refine (implWord _ b i _ (HBV.out _ HO3.out) (by omega) (by omega)).mono ?_
  rintro e w4 ⟨X, hX, hbit, rfl, hO4⟩
  have HX := Lib.hid hX
  have HBIT := Lib.hid hbit
  have HO4 := Lib.hid hO4
  have hbd := HB3.out.1.bound
  clear hX hbit hO4 d0 d1
  go_wp2_with fail
  go_loopw [9] (fun i wr => ∃ k : Nat, k ≤ 64 ∧ i = .int .i64 (k : Int) ∧ Same w4 wr) (fun i _ => 64 - (intOf i).toNat)
  case atStart => exact ⟨0, Nat.zero_le _, rfl, Only.refl _ _⟩
  case round =>
    obtain ⟨k, hk, rfl, hO5⟩ := hrel
    have HO6 := Lib.hid hO5
    clear hO5
    by_cases hlt : k < 64
    · have hlt' : (k : Int) < 64 := by omega
      have HOF : Hid (∀ wx, Same w4 wx → Calls Try.prog 20 #[.slice a3 b.length cap3, .int .i64 ((i : Int) + (k : Int))] wx fun e w' => e = .returned (.bool (X.testBit k)) ∧ w' = wx) := Lib.hid (fun wx hx => by
        have := bsOf a3 cap3 b (i + k) wx (HB3.out.keep (Same.trans HO4.out hx) (fun _ _ => id)) (by omega) (by omega)
        rw [← HBIT.out k hlt] at this
        exact this)
      have HT : Hid ((bits .and .u64 ((X : Int) / 2 ^ k) 1 == 1) = X.testBit k) := Lib.hid (word_bit HX.out k)
      cases ht : X.testBit k
      all_goals
        have hbit := HT.out
        rw [ht] at hbit
        have HC : Hid (∀ wx, Same w4 wx → Calls Try.prog 20 #[.slice a3 b.length cap3, .int .i64 ((i : Int) + (k : Int))] wx fun e w' => e = .returned (.bool _) ∧ w' = wx) := Lib.hid (fun wx hx => by
          have := HOF.out wx hx
          rw [ht] at this
          exact this)
        clear ht HT
        go_wp2_with fail
        refine (HC.out _ HO6.out).mono ?_
        rintro e w' ⟨rfl, rfl⟩
        go_wp2_with fail
        go_roundw
        case rel => exact ⟨k + 1, by omega, by go_num, HO6.out⟩
        case measure => simp [intOf]; omega
    · obtain rfl : k = 64 := by omega
      go_wp2_with fail
      go_ret
      exact ⟨rfl, Only.below (Same.trans HO5.out (Same.trans HO3.out (Same.trans HO4.out HO6.out))) (Nat.le_refl _) (fun _ _ => id)⟩

theorem walk (W : World) (v0 v1 : Value) (r0 : Reads Try.prog W 33 v0) (r1 : Reads Try.prog W 22 v1) :
    Calls Try.prog 4 #[v0, v1] W fun e w' => e = .returned (.bool true) ∧ Below W.heap.size W w' := by
  obtain ⟨n, a, m, cap, zs, rfl, hr⟩ := Reads.bits r0
  obtain ⟨p, rfl, hp⟩ := r1.int Try.underlying22
  have hp' := wf_u16 hp
  obtain ⟨P, rfl⟩ := Int.eq_ofNat_of_zero_le hp'.1
  by_cases hm : m ≤ 2147483647
  · exact main n a m cap zs P W hr hm (by omega)
  · have H := Lib.hid (fits_no (n : Int) a m cap)
    clear r0 r1 hr hp hp'
    go_enter Try.func4, Try.ntmps4
    go_wp2_with fail
    refine (H.out _ (by omega)).mono ?_
    rintro e w1 ⟨rfl, hO1⟩
    go_wp2_with fail
    go_ret
    exact ⟨rfl, Only.below (same_alloc hO1) (Nat.le_refl _) (fun _ _ => id)⟩
end Go.Proofs.Ytjmgidedaodlpaa.walkFnBSWord

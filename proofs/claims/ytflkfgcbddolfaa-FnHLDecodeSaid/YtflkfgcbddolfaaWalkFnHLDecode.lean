/-
  FnHLDecode: the walk. The places of two numbers that follow one another are neighbours, and both are encoded as their numbers.
-/
import Derived.Test.YtflkfgcbddolfaaHlEnc
namespace Go.Proofs.Ytflkfgcbddolfaa.walkFnHLDecode
open Go.RowKit Go.Proofs.Ytflkfgcbddolfaa.base Go.Proofs.Ytflkfgcbddolfaa.heap Go.Proofs.Ytflkfgcbddolfaa.hil
set_option linter.unusedVariables false

theorem unit {x y : Int} (h : x * x + y * y = 1) : (x = 1 ∧ y = 0) ∨ (x = -1 ∧ y = 0) ∨ (x = 0 ∧ y = 1) ∨ (x = 0 ∧ y = -1) := by
  have sq : ∀ z : Int, 0 ≤ z * z := fun z => by
    rcases Int.le_total 0 z with h | h
    · exact Int.mul_nonneg h h
    · exact Int.mul_nonneg_of_nonpos_of_nonpos h h
  have big : ∀ z : Int, z * z ≤ 1 → z = 0 ∨ z = 1 ∨ z = -1 := fun z hz => by
    by_cases h1 : 2 ≤ z
    · have := Int.mul_le_mul h1 h1 (by omega) (by omega)
      omega
    · by_cases h2 : z ≤ -2
      · have := Int.mul_le_mul (show 2 ≤ -z by omega) (show 2 ≤ -z by omega) (by omega) (by omega)
        rw [Int.neg_mul_neg] at this
        omega
      · omega
  have hx := sq x
  have hy := sq y
  rcases big x (by omega) with rfl | rfl | rfl <;> rcases big y (by omega) with rfl | rfl | rfl <;> simp at h ⊢

set_option maxRecDepth 100000 in
set_option maxHeartbeats 1600000 in
theorem main (h : Nat) (n : Nat) (w : World) (hh : h < 4 ^ 31 - 1) (hn : n < 18446744073709551616) (hnh : h = if n / 4 = 4 ^ 31 - 1 then n / 4 - 1 else n / 4) :
    Calls Try.prog 3 #[.int .u64 (n : Int)] w fun e w' => e = .returned (.bool true) ∧ Below w.heap.size w w' := by
  have e31 : (4 : Nat) ^ 31 = 4611686018427387904 := by decide
  rw [e31] at hnh hh
  have hmod : h % 4 ^ 31 ≠ 4 ^ 31 - 1 := by rw [e31, Nat.mod_eq_of_lt (by omega)]; omega
  have hd := D_next 31 h hmod
  have HD1 : Hid (∀ wx, Calls Try.prog 6 #[.int .i64 (h : Int)] wx fun e w' => e = .returned (.tuple #[.int .i32 (D 31 h).1, .int .i32 (D 31 h).2]) ∧ Only (fun _ => False) wx w') := Lib.hid (fun wx => implDecode h wx (by omega))
  have HD2 : Hid (∀ wx, Calls Try.prog 6 #[.int .i64 ((h : Int) + 1)] wx fun e w' => e = .returned (.tuple #[.int .i32 (D 31 (h + 1)).1, .int .i32 (D 31 (h + 1)).2]) ∧ Only (fun _ => False) wx w') := Lib.hid (fun wx => by
    have := implDecode (h + 1) wx (by omega)
    rwa [show ((h + 1 : Nat) : Int) = (h : Int) + 1 from by push_cast; rfl] at this)
  have HE1 : Hid (∀ wx, Calls Try.prog 7 #[.int .i32 (D 31 h).1, .int .i32 (D 31 h).2] wx fun e w' => e = .returned (.int .i64 (h : Int)) ∧ Only (fun _ => False) wx w') := Lib.hid (fun wx => implEncode h wx (by rw [e31]; omega))
  have HE2 : Hid (∀ wx, Calls Try.prog 7 #[.int .i32 (D 31 (h + 1)).1, .int .i32 (D 31 (h + 1)).2] wx fun e w' => e = .returned (.int .i64 ((h : Int) + 1)) ∧ Only (fun _ => False) wx w') := Lib.hid (fun wx => by
    have := implEncode (h + 1) wx (by rw [e31]; omega)
    rwa [show ((h + 1 : Nat) : Int) = (h : Int) + 1 from by push_cast; rfl] at this)
  obtain ⟨a1, a2, a3, a4⟩ := D_bd 31 h
  obtain ⟨b1, b2, b3, b4⟩ := D_bd 31 (h + 1)
  have p31 : (2 : Int) ^ 31 = 2147483648 := by decide
  rw [p31] at a2 a4 b2 b4
  unfold dist at hd
  generalize D 31 h = p at *
  generalize D 31 (h + 1) = q at *
  obtain ⟨x, y⟩ := p
  obtain ⟨u, v⟩ := q
  dsimp only at *
  have hu := unit hd
  have a2' : x ≤ 2147483647 := by omega
  have a4' : y ≤ 2147483647 := by omega
  have b2' : u ≤ 2147483647 := by omega
  have b4' : v ≤ 2147483647 := by omega
  have HU := Lib.hid hu
  clear hd hmod e31 p31 a2 a4 b2 b4 hu
  have hcase : ((n : Int) / 4 = 4611686018427387903 ∧ (h : Int) = (n : Int) / 4 - 1) ∨ (¬ (n : Int) / 4 = 4611686018427387903 ∧ (h : Int) = (n : Int) / 4) := by
    split at hnh <;> omega
  have hn4 : (n : Int) / 4 ≤ 4611686018427387903 := by omega
  have hhl : (h : Int) ≤ 4611686018427387902 := by omega
  clear hnh hh hn
  obtain ⟨m, hm⟩ : ∃ m : Int, (n : Int) / 4 = m := ⟨_, rfl⟩
  have hm0 : 0 ≤ m := by omega
  rw [hm] at hcase hn4
  rcases hcase with ⟨h1, h2⟩ | ⟨h1, h2⟩
  · have HME : Hid ((4611686018427387902 : Int) = (h : Int)) := Lib.hid (by omega)
    have h1' : (m == 4611686018427387903) = true := by simpa using h1
    clear h2
    go_enter Try.func3, Try.ntmps3
    go_wp2_with fail
    rw [HME.out]
    refine (HD1.out _).mono ?_
    rintro e w1 ⟨rfl, hO1⟩
    have HO1 := Lib.hid hO1
    clear hO1
    go_wp2_with fail
    refine (HD2.out _).mono ?_
    rintro e w2 ⟨rfl, hO2⟩
    have HO2 := Lib.hid (Only.trans HO1.out hO2 (fun _ _ h => h))
    clear hO2
    rcases HU.out with ⟨g1, g2⟩ | ⟨g1, g2⟩ | ⟨g1, g2⟩ | ⟨g1, g2⟩
    all_goals
      go_wp2_with fail
      refine (HE1.out _).mono ?_
      rintro e w3 ⟨rfl, hO3⟩
      have HO3 := Lib.hid (Only.trans HO2.out hO3 (fun _ _ h => h))
      clear hO3
      go_wp2_with fail
      refine (HE2.out _).mono ?_
      rintro e w4 ⟨rfl, hO4⟩
      have HO4 := Lib.hid (Only.trans HO3.out hO4 (fun _ _ h => h))
      clear hO4
      go_wp2_with fail
      go_ret
      exact ⟨by simp, Only.below HO4.out (Nat.le_refl _) (fun _ _ => id)⟩
  · have HME : Hid (m = (h : Int)) := Lib.hid (by omega)
    have h1' : (m == 4611686018427387903) = false := by simpa using h1
    clear h2
    go_enter Try.func3, Try.ntmps3
    go_wp2_with fail
    rw [HME.out]
    refine (HD1.out _).mono ?_
    rintro e w1 ⟨rfl, hO1⟩
    have HO1 := Lib.hid hO1
    clear hO1
    go_wp2_with fail
    refine (HD2.out _).mono ?_
    rintro e w2 ⟨rfl, hO2⟩
    have HO2 := Lib.hid (Only.trans HO1.out hO2 (fun _ _ h => h))
    clear hO2
    rcases HU.out with ⟨g1, g2⟩ | ⟨g1, g2⟩ | ⟨g1, g2⟩ | ⟨g1, g2⟩
    all_goals
      go_wp2_with fail
      refine (HE1.out _).mono ?_
      rintro e w3 ⟨rfl, hO3⟩
      have HO3 := Lib.hid (Only.trans HO2.out hO3 (fun _ _ h => h))
      clear hO3
      go_wp2_with fail
      refine (HE2.out _).mono ?_
      rintro e w4 ⟨rfl, hO4⟩
      have HO4 := Lib.hid (Only.trans HO3.out hO4 (fun _ _ h => h))
      clear hO4
      go_wp2_with fail
      go_ret
      exact ⟨by simp, Only.below HO4.out (Nat.le_refl _) (fun _ _ => id)⟩

theorem walk (W : World) (v0 : Value) (r0 : Reads Try.prog W 22 v0) :
    Calls Try.prog 3 #[v0] W fun e w' => e = .returned (.bool true) ∧ Below W.heap.size W w' := by
  obtain ⟨n, rfl, hn⟩ := r0.int Try.underlying22
  have hn' := wf_u64 hn
  obtain ⟨N, rfl⟩ := Int.eq_ofNat_of_zero_le hn'.1
  have e31 : (4 : Nat) ^ 31 = 4611686018427387904 := by decide
  exact main _ N W (by rw [e31]; split <;> omega) (by omega) rfl
end Go.Proofs.Ytflkfgcbddolfaa.walkFnHLDecode

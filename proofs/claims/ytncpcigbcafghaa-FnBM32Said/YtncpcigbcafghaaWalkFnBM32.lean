/-
  FnBM32: the walk. A bitmap's bits are set, cleared, asked and counted.
-/
import Derived.Test.YtncpcigbcafghaaBase
import Derived.Test.YtncpcigbcafghaaPop
import Derived.Deep.Light
namespace Go.Proofs.Ytncpcigbcafghaa.walkFnBM32
open Go.ChangeShapes Go.WideShapes Go.ChangeAt Go.RowKit Go.Proofs.Ytncpcigbcafghaa.base Go.Proofs.Ytncpcigbcafghaa.pop
set_option linter.unusedVariables false

set_option maxRecDepth 100000 in
set_option maxHeartbeats 400000 in
theorem popCount (b : Int) (h0 : 0 ≤ b) (h1 : b < 4294967296) (w : World) :
    Calls Try.prog 19 #[.int .u32 b] w fun e w' => e = .returned (.int .i64 (cnt 64 b.toNat)) ∧ w = w' := by
  have he : Hid (pcE b = (cnt 64 b.toNat : Int)) := Lib.hid (by
    obtain ⟨n, rfl⟩ := Int.eq_ofNat_of_zero_le h0
    exact pcE_eq n (by omega))
  go_enter Try.func19, Try.ntmps19
  go_wp2
  go_ret
  exact ⟨by rw [← he.out]; rfl, rfl⟩

set_option maxHeartbeats 400000 in
theorem baCount (n : Nat) (h : n < 18446744073709551616) (w : World) :
    Calls Try.prog 11 #[.int .u64 (n : Int)] w fun e w' => e = .returned (.int .i64 (cnt 64 n)) ∧ w = w' := by
  go_enter Try.func11, Try.ntmps11
  go_wp2
  go_loop [0, 3] (fun b v => ∃ (f m : Nat), f ≤ 64 ∧ m < 2 ^ f ∧ m < 18446744073709551616 ∧ b = .int .u64 (m : Int) ∧ v = .int .i64 ((cnt 64 n : Int) - (cnt f m : Int))) (fun b _ => (intOf b).toNat)
  case atStart => exact ⟨64, n, by omega, by simpa using h, h, rfl, by simp⟩
  case round =>
    obtain ⟨f, m, hf, hm, hm2, rfl, rfl⟩ := hrel
    have c1 := cnt_le 64 n
    have c2 := cnt_le f m
    by_cases h0 : 0 < m
    · cases f with
      | zero => omega
      | succ f =>
        have h2 : m / 2 < 2 ^ f := by rw [Nat.pow_succ] at hm; omega
        have hc : cnt (f + 1) m = m % 2 + cnt f (m / 2) := rfl
        have c3 := cnt_le f (m / 2)
        have hc' := Lib.hid hc
        clear hc
        have h0' : (0 : Int) < (m : Int) := by omega
        go_wp2
        go_round
        case rel => exact ⟨f, m / 2, by omega, h2, by omega, by congr 1, by congr 1; rw [hc'.out]; push_cast; omega⟩
        case measure => simp [intOf]; omega
    · obtain rfl : m = 0 := by omega
      have h0' : ¬ (0 : Int) < ((0 : Nat) : Int) := by omega
      have hz := Lib.hid (cnt_zero f)
      go_wp2
      go_ret
      exact ⟨ret_int (by rw [hz.out]; omega), rfl⟩


theorem nt (k : Nat) (hk : k < 32) : 2 ^ k % 4294967296 = 2 ^ k ∧ 2 ^ k < 4294967296 := by
  have h : 2 ^ k < 2 ^ 32 := Nat.pow_lt_pow_right (by omega) hk
  have e : (2 : Nat) ^ 32 = 4294967296 := by decide
  rw [e] at h
  exact ⟨Nat.mod_eq_of_lt h, h⟩
theorem nti (k : Nat) (hk : k < 32) : (2 : Int) ^ k % 4294967296 = ((2 ^ k : Nat) : Int) := by
  have h := nt k hk
  have e : (2 : Int) ^ k = ((2 ^ k : Nat) : Int) := by push_cast; rfl
  rw [e]; omega
theorem f1 (n k : Nat) (h : n < 4294967296) (hk : k < 32) : bits .or .u32 (n : Int) (2 ^ k % 4294967296) = ((n ||| 2 ^ k : Nat) : Int) := by
  rw [nti k hk]; exact u32_or_nat n _ h (nt k hk).2
theorem f2 (n k : Nat) (h : n < 4294967296) (hk : k < 32) : bits .and .u32 (n : Int) (bits .xor .u32 IntKind.u32.max (2 ^ k % 4294967296)) = bits .andNot .u32 (n : Int) (2 ^ k % 4294967296) := by
  have hp := nt k hk
  rw [nti k hk, show IntKind.u32.max = ((4294967295 : Nat) : Int) from by decide, u32_xor_nat _ _ (by omega) hp.2, u32_andNot_nat n _ h hp.2]
  have e : 4294967295 ^^^ 2 ^ k = 4294967295 - 2 ^ k := by
    apply Nat.eq_of_testBit_eq
    intro i
    have e1 : (4294967295 : Nat) = 2 ^ 32 - 1 := by decide
    have h2 : 2 ^ k < 2 ^ 32 := hp.2
    rw [e1, Nat.testBit_xor, Nat.sub_sub, Nat.add_comm 1, Nat.testBit_two_pow_sub_succ h2, Nat.testBit_two_pow_sub_one, Nat.testBit_two_pow]
    by_cases hi : i < 32 <;> by_cases hik : k = i <;> simp [hi, hik] <;> omega
  rw [e, u32_and_nat n _ h (by omega)]
theorem f3 (n k : Nat) (h : n < 4294967296) (hk : k < 32) : (bits .and .u32 (n : Int) (2 ^ k % 4294967296) == 0) = !(((n : Int) / 2 ^ k).tmod 2 == 1) := by
  have hp := nt k hk
  have e2 : (n : Int) / 2 ^ k = ((n / 2 ^ k : Nat) : Int) := by push_cast; rfl
  rw [nti k hk, u32_and_nat n _ h hp.2, nat_bit, e2, Int.tmod_eq_emod_of_nonneg (Int.natCast_nonneg _)]
  have hpos : 0 < 2 ^ k := Nat.pow_pos (by omega)
  generalize n / 2 ^ k = x
  have hx : x % 2 = 0 ∨ x % 2 = 1 := by omega
  rcases hx with hx | hx
  · have h1 : ((x : Int) % 2) = 0 := by omega
    rw [hx, h1, Nat.zero_mul]; decide
  · have h1 : ((x : Int) % 2) = 1 := by omega
    rw [hx, h1, Nat.one_mul, show (!((1 : Int) == 1)) = false from by decide, beq_eq_false_iff_ne]; omega

/-- what BM32 answers -/
theorem bm1 (n k : Nat) (h : n < 4294967296) (hk : k < 32) (w : World) :
    Calls Try.prog 10 #[.int .u32 (n : Int), .int .i64 1, .int .u64 (k : Int)] w fun e w' => e = .returned (.tuple #[.int .u32 (bits .or .u32 (n : Int) (2 ^ k % 4294967296)), .bool false, .int .i64 0]) ∧ w = w' := by
  go_enter Try.func10, Try.ntmps10
  go_wp2
  go_ret3
  exact ⟨rfl, rfl⟩
theorem bm2 (n k : Nat) (h : n < 4294967296) (hk : k < 32) (w : World) :
    Calls Try.prog 10 #[.int .u32 (n : Int), .int .i64 2, .int .u64 (k : Int)] w fun e w' => e = .returned (.tuple #[.int .u32 (bits .and .u32 (n : Int) (bits .xor .u32 IntKind.u32.max (2 ^ k % 4294967296))), .bool false, .int .i64 0]) ∧ w = w' := by
  have hs : IntKind.u32.signed = false := rfl
  go_enter Try.func10, Try.ntmps10
  go_wp2
  go_ret3
  exact ⟨rfl, rfl⟩
theorem bm3 (n k : Nat) (h : n < 4294967296) (hk : k < 32) (w : World) :
    Calls Try.prog 10 #[.int .u32 (n : Int), .int .i64 3, .int .u64 (k : Int)] w fun e w' => e = .returned (.tuple #[.int .u32 (n : Int), .bool (!(bits .and .u32 (n : Int) (2 ^ k % 4294967296) == 0)), .int .i64 0]) ∧ w = w' := by
  go_enter Try.func10, Try.ntmps10
  go_wp2
  go_ret3
  exact ⟨rfl, rfl⟩
theorem bm4 (n : Nat) (h : n < 4294967296) (w : World) :
    Calls Try.prog 10 #[.int .u32 (n : Int), .int .i64 4, .int .u64 0] w fun e w' => e = .returned (.tuple #[.int .u32 (n : Int), .bool false, .int .i64 (cnt 64 n)]) ∧ w = w' := by
  go_enter Try.func10, Try.ntmps10
  go_wp2_with (go_at_call 19; refine (popCount _ (by omega) (by omega) _).mono ?_; rintro e w' ⟨rfl, rfl⟩)
  go_ret3
  exact ⟨rfl, rfl⟩

set_option maxHeartbeats 800000 in
theorem walk0 (n k : Nat) (h : n < 4294967296) (hk : k < 256) (w : World) :
    Calls Try.prog 5 #[.int .u32 (n : Int), .int .u8 (k : Int)] w fun e w' => e = .returned (.bool true) ∧ Grown w w' := by
  have hm : k % 32 < 32 := by omega
  go_enter Try.func5, Try.ntmps5
  go_wp2_with fail
  refine (bm1 n (k % 32) h hm _).mono ?_
  rintro e w' ⟨rfl, rfl⟩
  go_wp2_with fail
  refine (bm2 n (k % 32) h hm _).mono ?_
  rintro e w' ⟨rfl, rfl⟩
  go_wp2_with fail
  refine (bm3 n (k % 32) h hm _).mono ?_
  rintro e w' ⟨rfl, rfl⟩
  go_wp2_with fail
  refine (bm4 n h _).mono ?_
  rintro e w' ⟨rfl, rfl⟩
  go_wp2_with fail
  case isTrue =>
    refine (baCount n (by omega) _).mono ?_
    rintro e w' ⟨rfl, rfl⟩
    go_wp2_with fail
    go_ret
    exact ⟨rfl, Grown.refl _⟩
  · exact absurd (f3 n (k % 32) h hm) (by assumption)
  · exact absurd (f2 n (k % 32) h hm) (by assumption)

theorem walk (a0 : Int) (a1 : Int) (w0 : (Lit.int .u32 a0).wf = true) (w1 : (Lit.int .u8 a1).wf = true) (w : World) :
    Calls Try.prog 5 #[.int .u32 a0, .int .u8 a1] w fun e w' => e = .returned (.bool true) ∧ Grown w w' := by
  have h0 := wf_u32 w0
  have h1 := wf_u8 w1
  obtain ⟨n, rfl⟩ := Int.eq_ofNat_of_zero_le h0.1
  obtain ⟨k, rfl⟩ := Int.eq_ofNat_of_zero_le h1.1
  exact walk0 n k (by omega) (by omega) w
end Go.Proofs.Ytncpcigbcafghaa.walkFnBM32

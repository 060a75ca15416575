/-
  The Hilbert curve: Decode.
-/
import Derived.Test.YtflkfgcbddolfaaHlFns
namespace Go.Proofs.Ytflkfgcbddolfaa.hil
open Go.RowKit Go.Proofs.Ytflkfgcbddolfaa.base Go.Proofs.Ytflkfgcbddolfaa.heap
set_option linter.unusedVariables false

theorem ofInt_i64 (a : Nat) (ha : a < 9223372036854775808) : (BitVec.ofInt 64 (a : Int)).toNat = a := by
  rw [BitVec.ofInt_natCast, BitVec.toNat_ofNat]; exact Nat.mod_eq_of_lt (by omega)
theorem and1 (t : Nat) (ht : t < 9223372036854775808) : bits .and .i64 1 (t : Int) = ((t % 2 : Nat) : Int) := by
  show IntKind.i64.wrap ((BitVec.ofInt 64 ((1 : Nat) : Int) &&& BitVec.ofInt 64 (t : Int)).toNat : Int) = _
  rw [BitVec.toNat_and, ofInt_i64 1 (by omega), ofInt_i64 t ht, Nat.and_comm, Nat.and_one_is_mod, IntKind.wrap_i64]
  omega
theorem xor_i64 (t r : Nat) (ht : t < 4611686018427387904) (hr : r < 4611686018427387904) : bits .xor .i64 (t : Int) (r : Int) = ((t ^^^ r : Nat) : Int) := by
  have hx : t ^^^ r < 2 ^ 62 := Nat.xor_lt_two_pow (by omega) (by omega)
  show IntKind.i64.wrap ((BitVec.ofInt 64 (t : Int) ^^^ BitVec.ofInt 64 (r : Int)).toNat : Int) = _
  rw [BitVec.toNat_xor, ofInt_i64 t (by omega), ofInt_i64 r (by omega), IntKind.wrap_i64]
  omega
theorem xor_par (t r : Nat) : (t ^^^ r) % 2 = (t + r) % 2 := by
  have h := Nat.testBit_xor t r 0
  simp only [Nat.testBit_zero] at h
  have h5 : (t ^^^ r) % 2 = 0 ∨ (t ^^^ r) % 2 = 1 := by omega
  have h1 : t % 2 = 0 ∨ t % 2 = 1 := by omega
  have h2 : r % 2 = 0 ∨ r % 2 = 1 := by omega
  rcases h5 with h5 | h5 <;> rcases h1 with h1 | h1 <;> rcases h2 with h2 | h2 <;> rw [h5, h1, h2] at h <;> first | omega | exact absurd h (by decide)

/-- the two digits that Decode reckons -/
theorem dec_digits (t : Nat) (ht : t < 4611686018427387904) :
    bits .and .i64 1 (((t / 2 : Nat) : Int)) = ((t / 2 % 2 : Nat) : Int) ∧ bits .xor .i64 (t : Int) ((t / 2 % 2 : Nat) : Int) = ((t ^^^ (t / 2 % 2) : Nat) : Int) ∧
    bits .and .i64 1 ((t ^^^ (t / 2 % 2) : Nat) : Int) = (((t + t / 2 % 2) % 2 : Nat) : Int) := by
  have hx : t ^^^ (t / 2 % 2) < 2 ^ 62 := Nat.xor_lt_two_pow (by omega) (by omega)
  refine ⟨and1 _ (by omega), xor_i64 t _ ht (by omega), ?_⟩
  rw [and1 _ (by omega), xor_par]

theorem turned_T (s : Int) (hs : 1 ≤ s) (hs2 : s ≤ 1073741824) (t : Nat) (p : Int × Int) (h1 : 0 ≤ p.1 ∧ p.1 < s) (h2 : 0 ≤ p.2 ∧ p.2 < s) :
    T s (t % 4) p = ((turned s ((t / 2 % 2 : Nat) : Int) (((t + t / 2 % 2) % 2 : Nat) : Int) p).1 + s * ((t / 2 % 2 : Nat) : Int), (turned s ((t / 2 % 2 : Nat) : Int) (((t + t / 2 % 2) % 2 : Nat) : Int) p).2 + s * (((t + t / 2 % 2) % 2 : Nat) : Int)) := by
  have h4 : t % 4 = 0 ∨ t % 4 = 1 ∨ t % 4 = 2 ∨ t % 4 = 3 := by omega
  have hw : ∀ z : Int, 0 ≤ z → z < 1073741824 → wrap32 z = z := fun z _ _ => by unfold wrap32; omega
  rcases h4 with h | h | h | h
  · rw [h, show t / 2 % 2 = 0 by omega, show (t + 0) % 2 = 0 by omega]
    simp [T, turned]
  · rw [h, show t / 2 % 2 = 0 by omega, show (t + 0) % 2 = 1 by omega]
    simp [T, turned]
  · rw [h, show t / 2 % 2 = 1 by omega, show (t + 1) % 2 = 1 by omega]
    simp [T, turned]
  · rw [h, show t / 2 % 2 = 1 by omega, show (t + 1) % 2 = 0 by omega]
    simp [T, turned]
    rw [hw _ (by omega) (by omega), hw _ (by omega) (by omega)]
    omega

set_option maxRecDepth 100000 in
set_option maxHeartbeats 1600000 in
theorem decode (h : Nat) (w : World) (hh : h < 4611686018427387904) :
    Calls Try.prog 16 #[.int .i64 (h : Int)] w fun e w' => e = .returned (.tuple #[.int .i32 (D 31 h).1, .int .i32 (D 31 h).2]) ∧ Only (fun _ => False) w w' := by
  go_enter Try.func16, Try.ntmps16
  go_wp2_with fail
  obtain ⟨W, hW⟩ : ∃ W, W = (w.alloc (.cells #[.int .i32 0] 21)).alloc (.cells #[.int .i32 0] 21) := ⟨_, rfl⟩
  rw [← hW]
  have HP : Hid (Pair w.heap.size (w.heap.size + 1) (D 0 h) W) := Lib.hid (by
    rw [hW]
    refine ⟨by omega, ?_, ?_⟩
    · rw [Below.heap_alloc _ _ _ (by simp)]; exact heap_alloc_new _ _
    · exact heap_alloc_new' _ _ _ (by simp))
  have HS : Hid (Only (fun _ => False) w W) := Lib.hid (by rw [hW]; exact ((Only.refl _ w).alloc _).alloc _)
  clear hW
  go_loopw [4, 5, 8, 9] (fun _ _ t s wr => ∃ k : Nat, k ≤ 31 ∧ t = .int .i64 ((h / 4 ^ k : Nat) : Int) ∧ s = .int .i64 (2 ^ k) ∧ Pair w.heap.size (w.heap.size + 1) (D k h) wr ∧ Only (fun _ => False) w wr) (fun _ _ _ s _ => (2147483648 - intOf s).toNat)
  case atStart => exact ⟨0, Nat.zero_le _, by simp, rfl, HP.out, HS.out⟩
  case round =>
    obtain ⟨k, hk, rfl, rfl, hp, hO⟩ := hrel
    have HPR := Lib.hid hp
    have HO := Lib.hid hO
    clear hp hO HP HS
    by_cases hlt : k < 31
    · obtain ⟨t, ht⟩ : ∃ t, h / 4 ^ k = t := ⟨_, rfl⟩
      have ht62 : t < 4611686018427387904 := by rw [← ht]; exact Nat.lt_of_le_of_lt (Nat.div_le_self _ _) hh
      have htl : t ≤ 4611686018427387903 := by omega
      obtain ⟨e1, e2, e3⟩ := dec_digits t ht62
      obtain ⟨s, hs⟩ : ∃ s : Int, (2 : Int) ^ k = s := ⟨_, rfl⟩
      have hs1 : 1 ≤ s := by rw [← hs]; have := pow_pos' k; omega
      have hs2 : s ≤ 1073741824 := by
        rw [← hs]
        obtain ⟨_, _, _, h2⟩ := two32 k (by omega)
        exact h2
      obtain ⟨b1, b2, b3, b4⟩ := D_bd (k + 1) h
      obtain ⟨a1, a2, a3, a4⟩ := D_bd k h
      have hT : D (k + 1) h = T s (t % 4) (D k h) := by rw [← hs, ← ht]; rfl
      rw [turned_T s hs1 hs2 t (D k h) ⟨a1, by rw [← hs]; exact a2⟩ ⟨a3, by rw [← hs]; exact a4⟩] at hT
      have h14 : t / 4 = h / 4 ^ (k + 1) := by rw [← ht, Nat.div_div_eq_div_mul, Nat.pow_succ]
      have hpk : (2 : Int) ^ (k + 1) = 2 * s := by rw [pow_s, hs]
      rw [hpk, hT] at b2 b4
      rw [hT] at b1 b3
      have hsd : (2147483648 : Int) > s := by omega
      rw [ht, hs]
      obtain ⟨r1, hr1⟩ : ∃ r1, t / 2 % 2 = r1 := ⟨_, rfl⟩
      obtain ⟨r0, hr0⟩ : ∃ r0, (t + r1) % 2 = r0 := ⟨_, rfl⟩
      obtain ⟨z, hz⟩ : ∃ z, t ^^^ r1 = z := ⟨_, rfl⟩
      rw [hr1] at e1 e2 e3 hT b1 b2 b3 b4
      rw [hz] at e2 e3
      rw [hr0] at e3 hT b1 b2 b3 b4
      have e1 : bits .and .i64 1 ((t : Int) / 2) = (r1 : Int) := by rw [← e1]; push_cast; rfl
      have hr1' : r1 = 0 ∨ r1 = 1 := by omega
      have hr0' : r0 = 0 ∨ r0 = 1 := by omega
      have HT := Lib.hid hT
      have H14 := Lib.hid h14
      have HPK := Lib.hid hpk
      have HR : Hid (∀ p wx, Pair w.heap.size (w.heap.size + 1) p wx → Calls Try.prog 39 #[.int .i32 s, .int .i32 (r1 : Int), .int .i32 (r0 : Int), .pointer (some ⟨w.heap.size, 0, none⟩), .pointer (some ⟨w.heap.size + 1, 0, none⟩)] wx fun e w' => e = .returned (.tuple #[]) ∧ Pair w.heap.size (w.heap.size + 1) (turned s (r1 : Int) (r0 : Int) p) w' ∧ Only (fun j => j = w.heap.size ∨ j = w.heap.size + 1) wx w') := Lib.hid (fun p wx hx => rotate s r1 r0 p _ _ wx hs1 hs2 hx)
      have hr1b : (0 : Int) ≤ (r1 : Int) ∧ (r1 : Int) ≤ 1 := by omega
      have hr0b : (0 : Int) ≤ (r0 : Int) ∧ (r0 : Int) ≤ 1 := by omega
      clear ht hs hT h14 hpk hr1 hr0 hz a1 a2 a3 a4 ht62
      go_wp2_with fail
      refine (HR.out _ _ HPR.out).mono ?_
      rintro e w2 ⟨rfl, hp2, hO2⟩
      generalize hXY : turned s (r1 : Int) (r0 : Int) (D k h) = q at *
      obtain ⟨X, Y⟩ := q
      have c0 : w2.cell? ⟨w.heap.size, 0, none⟩ = some (.int .i32 X) := block_cell hp2.one rfl
      have c1 : w2.cell? ⟨w.heap.size + 1, 0, none⟩ = some (.int .i32 Y) := block_cell hp2.two rfl
      have f0 : w2.frozen? ⟨w.heap.size, 0, none⟩ = false := block_free hp2.one
      have f1 : w2.frozen? ⟨w.heap.size + 1, 0, none⟩ = false := block_free hp2.two
      have HP2 := Lib.hid hp2
      have HO2 : Hid (Only (fun _ => False) w w2) := Lib.hid (Only.trans HO.out hO2 (fun j hj h => by omega))
      clear hp2 hO2 hXY HR e1 e2 e3
      rcases hr1' with rfl | rfl <;> rcases hr0' with rfl | rfl
      all_goals
        simp only [Int.natCast_zero, Int.natCast_one, Int.mul_zero, Int.mul_one, Int.add_zero] at b1 b2 b3 b4 HT ⊢
        go_wp2_with fail
        go_roundw
        case rel =>
          refine ⟨k + 1, by omega, by rw [← H14.out]; push_cast; rfl, by rw [HPK.out, Int.mul_comm], ?_, ?_⟩
          · rw [HT.out]
            first | exact ((HP2.out.put _).put' _) | (simpa using ((HP2.out.put _).put' _))
          · exact (HO2.out.setCell _ _ (fun h => absurd h (by simp))).setCell _ _ (fun h => absurd h (by simp))
        case measure => simp [intOf]; omega
    · obtain rfl : k = 31 := by omega
      have c0 : wr.cell? ⟨w.heap.size, 0, none⟩ = some (.int .i32 (D 31 h).1) := block_cell HPR.out.one rfl
      have c1 : wr.cell? ⟨w.heap.size + 1, 0, none⟩ = some (.int .i32 (D 31 h).2) := block_cell HPR.out.two rfl
      go_wp2_with fail
      go_quiet (fail)
      go_wp2
      go_ret2
      exact ⟨rfl, HO.out.drewN _⟩
end Go.Proofs.Ytflkfgcbddolfaa.hil

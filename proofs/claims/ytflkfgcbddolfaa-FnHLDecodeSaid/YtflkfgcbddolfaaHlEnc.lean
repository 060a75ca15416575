/-
  The Hilbert curve: Encode.
-/
import Derived.Test.YtflkfgcbddolfaaHlDec
namespace Go.Proofs.Ytflkfgcbddolfaa.hil
open Go.RowKit Go.Proofs.Ytflkfgcbddolfaa.base Go.Proofs.Ytflkfgcbddolfaa.heap
set_option linter.unusedVariables false

/-- what Encode's loop runs over: 2^(K-1), and 0 behind the last round -/
def sv (K : Nat) : Int := 2 ^ K / 2
theorem sv_succ (k : Nat) : sv (k + 1) = 2 ^ k := by unfold sv; rw [pow_s]; omega
theorem sv_zero : sv 0 = 0 := by decide
theorem sv_half (k : Nat) : sv (k + 1) / 2 = sv k := by rw [sv_succ]; rfl

set_option maxRecDepth 100000 in
set_option maxHeartbeats 1600000 in
theorem encode (h : Nat) (w : World) (hh : h < 4 ^ 31) :
    Calls Try.prog 17 #[.int .i32 (D 31 h).1, .int .i32 (D 31 h).2] w fun e w' => e = .returned (.int .i64 (h : Int)) ∧ Only (fun _ => False) w w' := by
  obtain ⟨q1, q2, q3, q4⟩ := D_bd 31 h
  have HX : Hid ((D 31 h).1 % 2 ^ 31 = (D 31 h).1 ∧ (D 31 h).2 % 2 ^ 31 = (D 31 h).2) := Lib.hid ⟨Int.emod_eq_of_lt q1 q2, Int.emod_eq_of_lt q3 q4⟩
  have HH := Lib.hid hh
  clear q1 q2 q3 q4 hh
  go_enter Try.func17, Try.ntmps17
  go_wp2_with fail
  obtain ⟨W, hW⟩ : ∃ W, W = (w.alloc (.cells #[.int .i32 (D 31 h).1] 21)).alloc (.cells #[.int .i32 (D 31 h).2] 21) := ⟨_, rfl⟩
  rw [← hW]
  have HP : Hid (Pair w.heap.size (w.heap.size + 1) (D 31 h) W) := Lib.hid (by
    rw [hW]
    refine ⟨by omega, ?_, ?_⟩
    · rw [Below.heap_alloc _ _ _ (by simp)]; exact heap_alloc_new _ _
    · exact heap_alloc_new' _ _ _ (by simp))
  have HS : Hid (Only (fun _ => False) w W) := Lib.hid (by rw [hW]; exact ((Only.refl _ w).alloc _).alloc _)
  clear hW
  go_loopw [5, 6, 7, 8] (fun _ _ d s wr => ∃ (K : Nat) (p : Int × Int), K ≤ 31 ∧ d = .int .i64 ((h - h % 4 ^ K : Nat) : Int) ∧ s = .int .i32 (sv K) ∧ Pair w.heap.size (w.heap.size + 1) p wr ∧ p.1 % 2 ^ K = (D K h).1 ∧ p.2 % 2 ^ K = (D K h).2 ∧ Only (fun _ => False) w wr) (fun _ _ _ s _ => (intOf s).toNat)
  case atStart => exact ⟨31, _, Nat.le_refl _, by rw [Nat.mod_eq_of_lt HH.out, Nat.sub_self]; rfl, rfl, HP.out, HX.out.1, HX.out.2, HS.out⟩
  case round =>
    obtain ⟨K, p, hK, rfl, rfl, hp, hm1, hm2, hO⟩ := hrel
    have HPR := Lib.hid hp
    have HO := Lib.hid hO
    clear hO HP HS HX
    cases K with
    | zero =>
      have HE : Hid (h - h % 4 ^ 0 = h) := Lib.hid (by rw [Nat.pow_zero, Nat.mod_one]; rfl)
      rw [sv_zero, HE.out]
      clear hp hm1 hm2
      go_wp2_with fail
      go_ret
      exact ⟨rfl, HO.out⟩
    | succ k =>
      have hk : k ≤ 30 := by omega
      obtain ⟨x, y⟩ := p
      obtain ⟨z1, z2, z3, z4, z5⟩ := enc_step k h hk x y hm1 hm2
      have a1 := and_i32 x k hk
      have a2 := and_i32 y k hk
      have hd := dig_lt h k
      have hdg := digs h k
      have hmh : h % 4 ^ (k + 1) ≤ h := Nat.mod_le _ _
      have hss : (sv (k + 1)) / 2 = sv k := sv_half k
      rw [sv_succ] at hss ⊢
      have c0 : wr.cell? ⟨w.heap.size, 0, none⟩ = some (.int .i32 x) := block_cell hp.one rfl
      have c1 : wr.cell? ⟨w.heap.size + 1, 0, none⟩ = some (.int .i32 y) := block_cell hp.two rfl
      have hs1 : (1 : Int) ≤ 2 ^ k := by have := pow_pos' k; omega
      have hs2 : (2 : Int) ^ k ≤ 1073741824 := by
        obtain ⟨_, _, _, h2⟩ := two32 k hk
        exact h2
      have h4 : ((4 ^ k : Nat) : Int) = 2 ^ k * 2 ^ k := by push_cast; exact pow4 k
      generalize hpw : (2 : Int) ^ k = s at *
      have HPW := Lib.hid hpw
      clear hpw
      obtain ⟨rx, hrx⟩ : ∃ rx, x / s % 2 = rx := ⟨_, rfl⟩
      obtain ⟨ry, hry⟩ : ∃ ry, y / s % 2 = ry := ⟨_, rfl⟩
      rw [hrx] at z1 a1 z3 z4 z5
      rw [hry] at z2 a2 z3 z4 z5
      obtain ⟨S2, hS2⟩ : ∃ S2, s * s = S2 := ⟨_, rfl⟩
      have hS0 : 0 ≤ S2 := by rw [← hS2]; exact Int.mul_nonneg (by omega) (by omega)
      have hS1 : S2 ≤ 1152921504606846976 := by
        rw [← hS2]
        exact Int.le_trans (Int.mul_le_mul_of_nonneg_right hs2 (by omega)) (Int.le_trans (Int.mul_le_mul_of_nonneg_left hs2 (by omega)) (by omega))
      rw [hS2] at h4
      obtain ⟨dd, hdd⟩ : ∃ dd, h - h % 4 ^ (k + 1) = dd := ⟨_, rfl⟩
      obtain ⟨dn, hdn⟩ : ∃ dn, h - h % 4 ^ k = dn := ⟨_, rfl⟩
      have hsum : (dn : Int) = (dd : Int) + S2 * (dig h k : Int) := by
        rw [← h4, ← Int.natCast_mul]
        omega
      have hdnl : (dn : Int) ≤ 4611686018427387904 := by
        have := HH.out
        have e31 : (4 : Nat) ^ 31 = 4611686018427387904 := by decide
        omega
      have hdn0 : (0 : Int) ≤ (dn : Int) := by omega
      have HDN := Lib.hid hdn
      rw [hdd]
      have HR : Hid (∀ wx, Pair w.heap.size (w.heap.size + 1) (x, y) wx → Calls Try.prog 39 #[.int .i32 s, .int .i32 rx, .int .i32 ry, .pointer (some ⟨w.heap.size, 0, none⟩), .pointer (some ⟨w.heap.size + 1, 0, none⟩)] wx fun e w' => e = .returned (.tuple #[]) ∧ Pair w.heap.size (w.heap.size + 1) (turned s rx ry (x, y)) w' ∧ Only (fun j => j = w.heap.size ∨ j = w.heap.size + 1) wx w') := Lib.hid (fun wx hx => rotate s rx ry (x, y) _ _ wx hs1 hs2 hx)
      have Z4 := Lib.hid z4
      have Z5 := Lib.hid z5
      have HSS := Lib.hid hss
      clear hdd hdn hd hdg hmh hm1 hm2 hp z4 z5 hrx hry hss h4
      generalize dig h k = dg at *
      rcases z1 with rfl | rfl <;> rcases z2 with rfl | rfl
      all_goals
        have x0 : bits .xor .i32 0 0 = 0 := by decide
        have x1 : bits .xor .i32 0 1 = 1 := by decide
        have x2 : bits .xor .i32 3 0 = 3 := by decide
        have x3 : bits .xor .i32 3 1 = 2 := by decide
        simp only [Int.zero_mul, Int.one_mul, Int.mul_zero, Int.mul_one, x0, x1, x2, x3] at a1 a2 z3
        have hsum' := hsum
        rw [← z3] at hsum'
        have hpos : (0 : Int) < s := by omega
        clear hsum z3
        go_wp2_with ((go_at_call 40; refine (boolToInt _ _).mono ?_; rintro e w' ⟨rfl, rfl⟩))
        have HSUM := Lib.hid hsum'
        refine (HR.out _ HPR.out).mono ?_
        rintro e w2 ⟨rfl, hp2, hO2⟩
        have HP2 := Lib.hid hp2
        have HO2 : Hid (Only (fun _ => False) w w2) := Lib.hid (Only.trans HO.out hO2 (fun j hj h => by omega))
        clear hp2 hO2
        go_wp2_with fail
        go_roundw
        case rel =>
          refine ⟨k, _, by omega, ?_, by rw [← HSS.out], HP2.out, by rw [HPW.out]; exact Z4.out, by rw [HPW.out]; exact Z5.out, HO2.out⟩
          rw [HDN.out]
          first | (congr 1; rw [HSUM.out]; omega) | (congr 1; have := HSUM.out; omega)
        case measure =>
          simp [intOf]
          omega

set_option maxHeartbeats 800000 in
theorem implEncode (h : Nat) (w : World) (hh : h < 4 ^ 31) :
    Calls Try.prog 7 #[.int .i32 (D 31 h).1, .int .i32 (D 31 h).2] w fun e w' => e = .returned (.int .i64 (h : Int)) ∧ Only (fun _ => False) w w' := by
  have HC := Lib.hid (encode h w hh)
  clear hh
  generalize D 31 h = p at *
  go_enter Try.func7, Try.ntmps7
  go_wp2_with fail
  refine HC.out.mono ?_
  rintro e w' ⟨rfl, hO⟩
  go_wp2_with fail
  go_ret
  exact ⟨rfl, hO⟩
set_option maxHeartbeats 800000 in
theorem implDecode (h : Nat) (w : World) (hh : h < 4611686018427387904) :
    Calls Try.prog 6 #[.int .i64 (h : Int)] w fun e w' => e = .returned (.tuple #[.int .i32 (D 31 h).1, .int .i32 (D 31 h).2]) ∧ Only (fun _ => False) w w' := by
  have HC := Lib.hid (decode h w hh)
  clear hh
  generalize D 31 h = p at *
  go_enter Try.func6, Try.ntmps6
  go_wp2_with fail
  refine HC.out.mono ?_
  rintro e w' ⟨rfl, hO⟩
  go_wp2_with fail
  go_ret2
  exact ⟨rfl, hO⟩
end Go.Proofs.Ytflkfgcbddolfaa.hil

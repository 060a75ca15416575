/-
  FnBAUint: the walk. Eight bytes are a number, the lowest one first; fewer are none.
-/
import Derived.Test.YtncpcigbcafghaaBase
import Derived.Test.YtncpcigbcafghaaNum
namespace Go.Proofs.Ytncpcigbcafghaa.walkFnBAUint
open Go.ChangeShapes Go.WideShapes Go.ChangeAt Go.RowKit Go.Proofs.Ytncpcigbcafghaa.base Go.Proofs.Ytncpcigbcafghaa.num
set_option linter.unusedVariables false

set_option maxHeartbeats 400000 in
theorem ufb (b off len cap : Nat) (f : Nat → Int) (w : World) (hlen : 8 ≤ len) (hl : len ≤ 9223372036854775807) (hc : ∀ j, j < 8 → w.cell? ⟨b, off + j, none⟩ = some (.int .u8 (f j)))
   (hz : ∀ j, 0 ≤ f j ∧ f j < 256) :
    Calls Try.prog 12 #[.slice (some ⟨b, off, none⟩) len cap] w fun e w' => ∃ n, e = .returned (.tuple #[.int .u64 (V f 8), .int .i64 8]) ∧ w' = w.drewN n := by
  have c0 := hc 0 (by omega)
  have c1 := hc 1 (by omega)
  have c2 := hc 2 (by omega)
  have c3 := hc 3 (by omega)
  have c4 := hc 4 (by omega)
  have c5 := hc 5 (by omega)
  have c6 := hc 6 (by omega)
  have c7 := hc 7 (by omega)
  simp only [Nat.add_zero] at c0
  have b0 := hz 0
  have b1 := hz 1
  have b2 := hz 2
  have b3 := hz 3
  have b4 := hz 4
  have b5 := hz 5
  have b6 := hz 6
  have b7 := hz 7
  have hv := Lib.hid (ors f hz)
  clear hc hz
  have l0 : (0:Int) < (len:Int) := by omega
  have l1 : (1:Int) < (len:Int) := by omega
  have l2 : (2:Int) < (len:Int) := by omega
  have l3 : (3:Int) < (len:Int) := by omega
  have l4 : (4:Int) < (len:Int) := by omega
  have l5 : (5:Int) < (len:Int) := by omega
  have l6 : (6:Int) < (len:Int) := by omega
  have l7 : (7:Int) < (len:Int) := by omega
  go_enter Try.func12, Try.ntmps12
  go_wp2
  go_quiet (fail)
  go_wp2
  go_ret2
  exact ⟨_, by rw [← hv.out]; rfl, rfl⟩

set_option maxHeartbeats 400000 in
theorem ufb_no (a : Option Addr) (len cap : Nat) (w : World) (hlen : len < 8) :
    Calls Try.prog 12 #[.slice a len cap] w fun e w' => e = .returned (.tuple #[.int .u64 0, .int .i64 (-1)]) ∧ w = w' := by
  go_enter Try.func12, Try.ntmps12
  go_wp2
  go_ret2
  exact ⟨rfl, rfl⟩

set_option maxHeartbeats 400000 in
theorem bau (b off len cap : Nat) (f : Nat → Int) (w : World) (hlen : 8 ≤ len) (hl : len ≤ 9223372036854775807) (hc : ∀ j, j < 8 → w.cell? ⟨b, off + j, none⟩ = some (.int .u8 (f j)))
   (hz : ∀ j, 0 ≤ f j ∧ f j < 256) :
    Calls Try.prog 6 #[.slice (some ⟨b, off, none⟩) len cap] w fun e w' => ∃ n, e = .returned (.tuple #[.int .u64 (V f 8), .int .i64 8]) ∧ w' = w.drewN n := by
  have H := Lib.hid (ufb b off len cap f w hlen hl hc hz)
  clear hc hz
  go_enter Try.func6, Try.ntmps6
  go_wp2_with fail
  refine H.out.mono ?_
  rintro e w' ⟨n, rfl, rfl⟩
  go_wp2
  go_ret2
  exact ⟨_, rfl, rfl⟩

set_option maxHeartbeats 400000 in
theorem bau_no (a : Option Addr) (len cap : Nat) (w : World) (hlen : len < 8) :
    Calls Try.prog 6 #[.slice a len cap] w fun e w' => e = .returned (.tuple #[.int .u64 0, .int .i64 (-1)]) ∧ w = w' := by
  go_enter Try.func6, Try.ntmps6
  go_wp2_with fail
  refine (ufb_no _ _ _ _ hlen).mono ?_
  rintro e w' ⟨rfl, rfl⟩
  go_wp2
  go_ret2
  exact ⟨rfl, rfl⟩

set_option maxHeartbeats 400000 in
theorem spec_no (a : Option Addr) (len cap : Nat) (w : World) (hlen : len < 8) :
    Calls Try.prog 7 #[.slice a len cap] w fun e w' => e = .returned (.tuple #[.int .u64 0, .bool false]) ∧ w = w' := by
  go_enter Try.func7, Try.ntmps7
  go_wp2
  go_ret2
  exact ⟨rfl, rfl⟩

set_option maxHeartbeats 400000 in
theorem spec_yes (b off len cap : Nat) (f : Nat → Int) (w : World) (hlen : 8 ≤ len) (hl : len ≤ 9223372036854775807) (hc : ∀ j, j < 8 → w.cell? ⟨b, off + j, none⟩ = some (.int .u8 (f j)))
   (hz : ∀ j, 0 ≤ f j ∧ f j < 256) :
    Calls Try.prog 7 #[.slice (some ⟨b, off, none⟩) len cap] w fun e w' => e = .returned (.tuple #[.int .u64 (V f 8), .bool true]) ∧ w = w' := by
  have HC := Lib.hid hc
  have HZ := Lib.hid hz
  clear hc hz
  go_enter Try.func7, Try.ntmps7
  go_wp2
  go_loop [4, 5] (fun n i => ∃ m : Nat, m ≤ 8 ∧ i = .int .i64 (7 - (m : Int)) ∧ n = .int .u64 (V f m)) (fun _ i => (intOf i + 1).toNat)
  case atStart => exact ⟨0, by omega, by simp, rfl⟩
  case round =>
    obtain ⟨m, hm, rfl, rfl⟩ := hrel
    by_cases hlt : m < 8
    · have hv := V_lo f HZ.out m (by omega)
      have hf := HZ.out (7 - m)
      have hcell : w.cell? ⟨b, off + (7 - m), none⟩ = some (.int .u8 (f (7 - m))) := HC.out _ (by omega)
      have hx : ((7 : Int) - (m : Int)).toNat = 7 - m := by omega
      have hlt' : (7 : Int) - (m : Int) < (len : Int) := by omega
      have hge : (0 : Int) ≤ 7 - (m : Int) := by omega
      go_wp2
      go_round
      case rel => exact ⟨m + 1, by omega, by go_num, by simp only [V]⟩
      case measure => simp [intOf]; omega
    · obtain rfl : m = 8 := by omega
      go_wp2
      go_ret2
      exact ⟨rfl, rfl⟩

theorem walk (a0 : Option Addr) (len0 cap0 : Nat) (z0 : List Int) (w : World) (w0 : IsRow .u8 w a0 len0 cap0 z0) :
    Calls Try.prog 3 #[.slice a0 len0 cap0] w fun e w' => e = .returned (.bool true) ∧ Below w.heap.size w w' := by
  have hle := w0.le
  by_cases h1 : 2147483647 < len0
  · clear w0
    go_enter Try.func3, Try.ntmps3
    go_wp2_with fail
    go_ret
    exact ⟨rfl, Below.refl _ _⟩
  · by_cases h2 : len0 < 8
    · clear w0
      go_enter Try.func3, Try.ntmps3
      go_wp2_with fail
      refine (bau_no _ _ _ _ h2).mono ?_
      rintro e w' ⟨rfl, rfl⟩
      go_wp2_with fail
      refine (spec_no _ _ _ _ h2).mono ?_
      rintro e w' ⟨rfl, rfl⟩
      go_wp2_with fail
      go_ret
      exact ⟨rfl, Below.refl _ _⟩
    · obtain ⟨b, off, rfl, hlz, hb, hc⟩ := w0.cells (by omega)
      have hz : ∀ j, 0 ≤ z0.getD j 0 ∧ z0.getD j 0 < 256 := fun j => wf_u8 (w0.wf (by decide) j)
      have H1 := Lib.hid (bau b off len0 cap0 (fun j => z0.getD j 0) w (by omega) (by omega) (fun j hj => hc j (by omega)) hz)
      have H2 : Hid (∀ n, Calls Try.prog 7 #[.slice (some ⟨b, off, none⟩) len0 cap0] (w.drewN n) fun e w' => e = .returned (.tuple #[.int .u64 (V (fun j => z0.getD j 0) 8), .bool true]) ∧ w.drewN n = w') := Lib.hid (fun n => spec_yes b off len0 cap0 (fun j => z0.getD j 0) (w.drewN n) (by omega) (by omega) (fun j hj => hc j (by omega)) hz)
      generalize V (fun j => z0.getD j 0) 8 = x at *
      clear w0 hc hz
      go_enter Try.func3, Try.ntmps3
      go_wp2_with fail
      refine H1.out.mono ?_
      rintro e w' ⟨n, rfl, rfl⟩
      go_wp2_with fail
      refine (H2.out _).mono ?_
      rintro e w' ⟨rfl, rfl⟩
      go_wp2_with fail
      go_ret
      exact ⟨rfl, below_drewN (Below.refl _ _) _⟩
end Go.Proofs.Ytncpcigbcafghaa.walkFnBAUint

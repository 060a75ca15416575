/-
  spec's TRFind, TRHas.
-/
import Derived.Test.YtcjifjfcjimefaaDoorZXfPos
import Derived.Test.YtcjifjfcjimefaaDoorZXfFew
namespace Go.Proofs.YtcjifjfcjimefaaDoor.xf
open Go.RowKit Go.Proofs.YtcjifjfcjimefaaDoor.base Go.Proofs.YtcjifjfcjimefaaDoor.heap Go.Proofs.YtcjifjfcjimefaaDoor.rows
set_option linter.unusedVariables false

set_option maxRecDepth 100000 in
theorem trFind_of (w : World) (a : Option Addr) (n cap : Nat) (L : List It) (k : Nat) (h : RS itc 2 w a n cap L) : Calls Tryd.prog 42 #[.slice a n cap, .int .u64 (k : Int)] w (SayP (.int .i64 ((pos L k : Nat) : Int)) w) := by
  have HR := Lib.hid h
  have bd := h.bound
  have hln := h.2
  clear h
  go_enter Tryd.func42, Tryd.ntmps42
  go_wp2_with fail
  go_loopw [5] (fun i wr => ∃ j : Nat, i = .int .i64 (j : Int) ∧ j ≤ n ∧ Hid (Same w wr ∧ ∀ i y, i < j → L[i]? = some y → y.1 < k)) (fun i _ => n - (intOf i).toNat)
  case atStart => exact ⟨0, rfl, Nat.zero_le _, Lib.hid ⟨Only.refl _ _, fun i y hi => by omega⟩⟩
  case round =>
    obtain ⟨j, rfl, hj, HP⟩ := hrel
    by_cases hlt : j < n
    · have hlt' : (j : Int) < (n : Int) := by omega
      obtain ⟨y, hy⟩ := HR.out.get hlt
      obtain ⟨b, off, ha, hb, hc⟩ := (HR.out.still HP.out.1).at itc_len (by omega)
      have c0 : wr.cell? ⟨b, off + j * 2, none⟩ = some (.int .u64 (y.1 : Int)) := hc j y hy 0 _ rfl
      have HY := Lib.hid hy
      subst ha
      clear hc hy
      by_cases hk : (y.1 : Int) < (k : Int)
      · have HP2 : Hid (∀ i z, i < j + 1 → L[i]? = some z → z.1 < k) := Lib.hid (fun i z hi hz => by
          rcases Nat.lt_or_ge i j with h1 | h1
          · exact HP.out.2 i z h1 hz
          · obtain rfl : i = j := by omega
            rw [HY.out] at hz
            cases hz
            omega)
        go_wp2_with fail
        go_roundw
        case rel => exact ⟨j + 1, by go_num, by omega, Lib.hid ⟨HP.out.1, HP2.out⟩⟩
        case measure => simp [intOf]; omega
      · have HE : Hid (pos L k = j) := Lib.hid (pos_eq L k j (by omega) HP.out.2 (fun z hz => by rw [HY.out] at hz; cases hz; omega))
        go_wp2_with fail
        go_ret
        exact ⟨by rw [HE.out]; rfl, HP.out.1⟩
    · have hlt' : ¬ (j : Int) < (n : Int) := by omega
      obtain rfl : j = n := by omega
      have HE : Hid (pos L k = j) := Lib.hid (pos_eq L k j (by omega) HP.out.2 (fun y hy => by rw [List.getElem?_eq_none (by omega)] at hy; cases hy))
      go_wp2_with fail
      go_ret
      exact ⟨by rw [HE.out]; rfl, HP.out.1⟩
theorem int_eq (a b : Nat) : ((a : Int) == (b : Int)) = (a == b) := by
  rw [Bool.eq_iff_iff, beq_iff_eq, beq_iff_eq]
  omega
set_option maxRecDepth 100000 in
theorem trHas_of (w : World) (a : Option Addr) (n cap : Nat) (L : List It) (k : Nat) (h : RS itc 2 w a n cap L) : Calls Tryd.prog 41 #[.slice a n cap, .int .u64 (k : Int)] w (SayP (.bool (has L k)) w) := by
  have HR := Lib.hid h
  have HF := Lib.hid (trFind_of w a n cap L k h)
  have bd := h.bound
  have hln := h.2
  have hp := pos_le L k
  obtain ⟨j, hj⟩ : ∃ j, pos L k = j := ⟨_, rfl⟩
  have HJ := Lib.hid hj
  rw [hj] at HF hp
  rw [hln] at hp
  clear h hj
  go_enter Tryd.func41, Tryd.ntmps41
  go_wp2_with fail
  refine HF.out.mono ?_
  rintro e w1 ⟨rfl, hs1⟩
  have HS1 := Lib.hid hs1
  clear hs1 HF
  by_cases hlt : j < n
  · have hlt' : (j : Int) < (n : Int) := by omega
    obtain ⟨y, hy⟩ := HR.out.get hlt
    obtain ⟨b, off, ha, hb, hc⟩ := (HR.out.still HS1.out).at itc_len (by omega)
    have c0 : w1.cell? ⟨b, off + j * 2, none⟩ = some (.int .u64 (y.1 : Int)) := hc j y hy 0 _ rfl
    have HH : Hid (has L k = (y.1 == k)) := Lib.hid (by unfold has; rw [HJ.out, hy])
    subst ha
    clear hc hy
    go_wp2_with fail
    go_ret
    exact ⟨by rw [HH.out, ← int_eq y.1 k]; rfl, HS1.out⟩
  · have hlt' : ¬ (j : Int) < (n : Int) := by omega
    have HH : Hid (has L k = false) := Lib.hid (by unfold has; rw [HJ.out, List.getElem?_eq_none (by omega)])
    go_wp2_with fail
    go_ret
    exact ⟨by rw [HH.out]; rfl, HS1.out⟩
end Go.Proofs.YtcjifjfcjimefaaDoor.xf

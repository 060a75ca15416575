/-
  FITwice: it comes to an answer.
-/
import Derived.Test.YtpccodjmjgfloaaFiSpec
import Derived.RegionTactic
namespace Go.Proofs.Ytpccodjmjgfloaa.fi
open Go.RowKit Go.Proofs.Ytpccodjmjgfloaa.base Go.Proofs.Ytpccodjmjgfloaa.heap Go.Proofs.Ytpccodjmjgfloaa.rows
set_option linter.unusedVariables false

set_option maxRecDepth 100000 in
set_option maxHeartbeats 1600000 in
theorem twice (a : Option Addr) (n cap : Nat) (l : List Stp) (w : World) (hl : RP w a n cap l) (hn : n ≤ 200) : Calls Try.prog 26 #[.slice a n cap] w fun e w' => ∃ b, e = .returned (.bool b) ∧ Hid (Same w w') := by
  have hbd := hl.1.bound
  have HR : Hid (∀ wx, Same w wx → RP wx a n cap l) := Lib.hid (fun wx hx => hl.keep hx (fun _ _ => id))
  have HL := Lib.hid hl.2
  clear hl
  go_enter Try.func26, Try.ntmps26
  go_wp2_with fail
  go_loopw [3] (fun x wr => ∃ k : Nat, k ≤ n ∧ x = .int .i64 (k : Int) ∧ Hid (Same w wr)) (fun x _ => n - (intOf x).toNat)
  case atStart => exact ⟨0, Nat.zero_le _, rfl, Lib.hid (Only.refl _ _)⟩
  case round =>
    obtain ⟨k, hk, rfl, HS0⟩ := hrel
    by_cases hlt : k < n
    · have hlt' : (k : Int) < (n : Int) := by omega
      obtain ⟨t, htk⟩ : ∃ t, l[k]? = some t := ⟨l[k]'(by rw [HL.out]; omega), List.getElem?_eq_getElem _⟩
      have HTK := Lib.hid htk
      clear htk
      go_wp2_with fail
      go_loopw [4, 5] (fun y x wr => ∃ (q : Bool) (j : Nat), j ≤ k ∧ y = .bool q ∧ x = .int .i64 (j : Int) ∧ Hid (Same w wr)) (fun _ x _ => k - (intOf x).toNat)
      case atStart => exact ⟨false, 0, Nat.zero_le _, rfl, rfl, HS0⟩
      case round =>
        clear HS0
        obtain ⟨q, j, hj, rfl, rfl, HS0⟩ := hrel
        obtain ⟨b, off, rfl, hb, hc⟩ := (HR.out wr HS0.out).at (by omega)
        obtain ⟨c0, c1, c2⟩ := hc k t HTK.out
        have HS1 : Hid (Same w wr.drew) := Lib.hid HS0.out.drew
        by_cases hjk : j < k
        · have hjk' : (j : Int) < (k : Int) := by omega
          have hjn : (j : Int) < (n : Int) := by omega
          obtain ⟨s, hsj⟩ : ∃ s, l[j]? = some s := ⟨l[j]'(by rw [HL.out]; omega), List.getElem?_eq_getElem _⟩
          obtain ⟨d0, d1, d2⟩ := hc j s hsj
          clear hsj hc
          by_cases h1 : s.k = t.k
          · rw [h1] at d1
            by_cases h2 : s.op = 1
            · rw [h2] at d0
              go_wp2_with fail
              go_region
              all_goals go_wp2_with fail
              all_goals exact ⟨⟨_, j + 1, by omega, rfl, by go_num, HS1⟩, by simp [intOf]; omega⟩
            · have h2' : (s.op == 1) = false := by simpa using h2
              by_cases h4 : s.op = 4
              · rw [h4] at d0
                go_wp2_with fail
                go_region
                all_goals go_wp2_with fail
                all_goals exact ⟨⟨_, j + 1, by omega, rfl, by go_num, HS1⟩, by simp [intOf]; omega⟩
              · have h4' : (s.op == 4) = false := by simpa using h4
                go_wp2_with fail
                go_region
                all_goals go_wp2_with fail
                all_goals exact ⟨⟨_, j + 1, by omega, rfl, by go_num, HS1⟩, by simp [intOf]; omega⟩
          · have h1' : ((s.k : Int) == (t.k : Int)) = false := by simp; omega
            go_wp2_with fail
            go_region
            all_goals go_wp2_with fail
            all_goals exact ⟨⟨_, j + 1, by omega, rfl, by go_num, HS1⟩, by simp [intOf]; omega⟩
        · obtain rfl : j = k := by omega
          clear hc
          cases q with
          | false =>
            go_wp2_with fail
            go_round
            case rel => exact ⟨j + 1, by omega, by go_num, HS0⟩
            case measure => simp [intOf]; omega
          | true =>
            by_cases h2 : t.op = 1
            · rw [h2] at c0
              go_wp2_with fail
              go_ret
              exact ⟨_, rfl, HS0⟩
            · have h2' : (t.op == 1) = false := by simpa using h2
              go_wp2_with fail
              go_round
              case rel => exact ⟨j + 1, by omega, by go_num, HS0⟩
              case measure => simp [intOf]; omega
    · obtain rfl : k = n := by omega
      go_wp2_with fail
      go_ret
      exact ⟨_, rfl, HS0⟩
end Go.Proofs.Ytpccodjmjgfloaa.fi

/-
  fhPriorities; numbers that are read.
-/
import Derived.Test.YtpddddjfjmipfaaFhRun
import Derived.Test.YtpddddjfjmipfaaRead
namespace Go.Proofs.Ytpddddjfjmipfaa.fh
open Go.ChangeShapes Go.WideShapes Go.ChangeAt Go.RowKit Go.Proofs.Ytpddddjfjmipfaa.base Go.Proofs.Ytpddddjfjmipfaa.heap Go.Proofs.Ytpddddjfjmipfaa.rows Go.Proofs.Ytpddddjfjmipfaa.flt
set_option linter.unusedVariables false

/-- whether all numbers of a list are priorities, not less than one -/
def prioOk (l : List Int) (least : Int) : Bool := l.all fun p => decide (least ≤ p) && decide (p ≤ 1099511627776)
theorem prio_mem {l : List Int} {least : Int} (h : prioOk l least = true) : ∀ p ∈ l, least ≤ p ∧ p ≤ 1099511627776 := by
  unfold prioOk at h
  rw [List.all_eq_true] at h
  intro p hp
  have := h p hp
  simpa using this
set_option maxRecDepth 100000 in
theorem prio (a : Option Addr) (n cap : Nat) (l : List Int) (least : Int) (w : World) (h : RL iv w a n cap l) :
    Calls Try.prog 10 #[.slice a n cap, .int .i64 least] w fun e w' => e = .returned (.bool (prioOk l least)) ∧ w = w' := by
  have HR := Lib.hid h
  have hbd := h.bound
  clear h
  go_enter Try.func10, Try.ntmps10
  go_wp2_with fail
  go_loop [9] (fun i => ∃ j : Nat, i = .int .i64 (j : Int) ∧ j ≤ n ∧ Hid (prioOk (l.take j) least = true)) (fun i => n - (intOf i).toNat)
  case atStart => exact ⟨0, rfl, Nat.zero_le _, Lib.hid rfl⟩
  case round =>
    obtain ⟨j, rfl, hj, HP⟩ := hrel
    by_cases hlt : j < n
    · have hlt' : (j : Int) < (n : Int) := by omega
      obtain ⟨p, hp⟩ := HR.out.get hlt
      obtain ⟨b, off, rfl, hb, hc⟩ := HR.out.at (by omega)
      have c0 : w.cell? ⟨b, off + j, none⟩ = some (.int .i64 p) := hc j p hp
      have HPJ := Lib.hid hp
      have hno : ∀ q, l[j]? = some q → ¬ (least ≤ q ∧ q ≤ 1099511627776) → prioOk l least = false := fun q hq hn => by
        cases h9 : prioOk l least with
        | false => rfl
        | true => exact absurd (prio_mem h9 q (List.mem_of_getElem? hq)) hn
      have HNO := Lib.hid hno
      clear hc hp hno
      by_cases h1 : p < least
      · have HF := Lib.hid (HNO.out p HPJ.out (by omega))
        clear HNO
        go_wp2_with fail
        go_ret
        exact ⟨by rw [HF.out]; rfl, rfl⟩
      · by_cases h2 : (1099511627776 : Int) < p
        · have HF := Lib.hid (HNO.out p HPJ.out (by omega))
          clear HNO
          go_wp2_with fail
          go_ret
          exact ⟨by rw [HF.out]; rfl, rfl⟩
        · have HP2 : Hid (prioOk (l.take (j + 1)) least = true) := Lib.hid (by
            rw [take_snoc l j p HPJ.out]
            have := HP.out
            unfold prioOk at this ⊢
            rw [List.all_append, this]
            have h3 : least ≤ p := by omega
            have h4 : p ≤ 1099511627776 := by omega
            simp [h3, h4])
          clear HNO HP
          go_wp2_with fail
          go_round
          case rel => exact ⟨j + 1, by go_num, by omega, HP2⟩
          case measure => simp [intOf]; omega
    · have hlt' : ¬ (j : Int) < (n : Int) := by omega
      obtain rfl : j = n := by omega
      have HF : Hid (prioOk l least = true) := Lib.hid (by
        have := HP.out
        rwa [List.take_of_length_le (by rw [HR.out.2]; exact Nat.le_refl _)] at this)
      clear HP
      go_wp2_with fail
      go_ret
      exact ⟨by rw [HF.out]; rfl, rfl⟩
theorem read_ints' {W : World} {v : Value} (h : T Try.prog W 29 [v]) : ∃ (a : Option Addr) (n cap : Nat) (l : List Int), v = .slice a n cap ∧ RL iv W a n cap l := by
  obtain ⟨a, n, cap, l, rfl, h, _⟩ := T.slice (c := fun x => [iv x]) (K := 1) (fun _ : Int => True) (fun _ => rfl) (fun x u hu => by simp at hu; subst hu; rfl) (by omega) Try.underlying29 (by kernel_rfl) (fun cs hl ht => by
    match cs, hl with
    | [v], _ =>
      obtain ⟨k, rfl, _⟩ := ht.int Try.underlying3
      exact ⟨k, rfl, trivial⟩) h
  exact ⟨a, n, cap, l, rfl, h.rl⟩
end Go.Proofs.Ytpddddjfjmipfaa.fh

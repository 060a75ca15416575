/-
  laws.baAnswers.
-/
import Derived.Test.YtacjkbljokjdkaaBaRun
namespace Go.Proofs.Ytacjkbljokjdkaa.ba
open Go.RowKit Go.Proofs.Ytacjkbljokjdkaa.base Go.Proofs.Ytacjkbljokjdkaa.heap Go.Proofs.Ytacjkbljokjdkaa.rows Go.Proofs.Ytacjkbljokjdkaa.bit Go.Proofs.Ytacjkbljokjdkaa.bs
set_option linter.unusedVariables false
set_option maxRecDepth 100000 in
set_option maxHeartbeats 1600000 in
theorem baAnswers (a : Option Addr) (n cap : Nat) (ts : List Stp) (ys : List Ans) (w : World) (hl : RS stc 6 w a n cap ts) (hn : n ≤ 1000) (hr : Runs [] ts ys) :
    Calls Try.prog 14 #[.slice a n cap] w (RunP ys w) := by
  have hbd := hl.bound
  have HR := Lib.hid (baRun a n cap ts ys w hl hn hr)
  have hlen : ys.length = n := by rw [hr.len, hl.2]
  clear hl hr
  go_enter Try.func14, Try.ntmps14
  go_wp2_with fail
  refine HR.out.mono ?_
  rintro e w1 ⟨oa, oc, As, rfl, h1, h2, h3, h4, h5⟩
  have hbo := h1.bound
  have HA := Lib.hid h1
  have HX : Hid (As.map (·.an) = ys ∧ (∀ x ∈ As, Own 24 1 w1 x.na x.an.nums.length x.nc (U x.an.nums) ∧ ∀ j, At x.na j → w.heap.size ≤ j) ∧ (∀ j, At oa j → w.heap.size ≤ j) ∧ Same w w1) := Lib.hid ⟨h2, h3, h4, h5⟩
  clear h1 h2 h3 h4 h5
  rw [hlen] at hbo HA ⊢
  go_wp2_with fail
  go_loopw [4] (fun i wr => ∃ k : Nat, k ≤ n ∧ i = .int .i64 (k : Int) ∧ Hid (Same w1 wr)) (fun i _ => n - (intOf i).toNat)
  case atStart => exact ⟨0, Nat.zero_le _, rfl, Lib.hid (Only.refl _ _)⟩
  case round =>
    obtain ⟨k, hk, rfl, HO⟩ := hrel
    by_cases hlt : k < n
    · have hlt' : (k : Int) < (n : Int) := by omega
      have hk0 : (0 : Int) ≤ (k : Int) := by omega
      obtain ⟨b, off, ha, hb, hc⟩ := (HA.out.still HO.out).at anc_len (by omega)
      obtain ⟨x, hx⟩ := HA.out.get hlt
      have c3 : wr.cell? ⟨b, off + k * 4 + 3, none⟩ = some (.bool false) := hc k x hx 3 _ rfl
      subst ha
      clear hc hx
      go_wp2_with fail
      go_roundw
      case rel => exact ⟨k + 1, by omega, by go_num, Lib.hid HO.out⟩
      case measure => simp [intOf]; omega
    · have hlt' : ¬ (k : Int) < (n : Int) := by omega
      go_wp2_with fail
      go_ret
      refine ⟨oa, oc, As, by rw [hlen]; rfl, by rw [hlen]; exact HA.out.still HO.out, HX.out.1, fun x hx => ⟨(HX.out.2.1 x hx).1.keep HO.out (fun _ _ => id), (HX.out.2.1 x hx).2⟩, HX.out.2.2.1, Same.trans HX.out.2.2.2 HO.out⟩
end Go.Proofs.Ytacjkbljokjdkaa.ba

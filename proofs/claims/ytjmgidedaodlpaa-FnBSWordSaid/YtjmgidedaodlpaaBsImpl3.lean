/-
  The thin package's functions that ask one bitset. Printed by a program of mine.
-/
import Derived.Test.YtjmgidedaodlpaaBsOps3
import Derived.Test.YtjmgidedaodlpaaBsLaw
namespace Go.Proofs.Ytjmgidedaodlpaa.bs
open Go.RowKit Go.Proofs.Ytjmgidedaodlpaa.base Go.Proofs.Ytjmgidedaodlpaa.heap Go.Proofs.Ytjmgidedaodlpaa.bit
set_option linter.unusedVariables false

/-- a word with the 64 bits from a place on -/
def RetWord (b : List Bool) (i : Nat) (w : World) (e : Ending) (w' : World) : Prop := ∃ W : Nat, Lt64 W ∧ (∀ k, k < 64 → W.testBit k = b.getD (i + k) false) ∧ e = .returned (.int .u64 (W : Int)) ∧ Same w w'

set_option maxRecDepth 100000 in
set_option maxHeartbeats 800000 in
theorem implWord (v : Value) (b : List Bool) (i : Nat) (w : World) (h : BV w v b) (hn : b.length ≤ 1048000) (hi : i < 1048576) :
    Calls Try.prog 19 #[v, .int .u64 (i : Int)] w (RetWord b i w) := by
  obtain ⟨a, m, cap, rfl, hr⟩ := h
  have hW : Only (fun _ => False) w (w.alloc (.cells #[.int .u64 (b.length : Int), .slice a m cap] 33)) := (Only.refl _ w).alloc _
  have HS := Lib.hid (set64 (.agg #[.int .u64 (b.length : Int), .slice a m cap]) b _ ⟨a, m, cap, rfl, hr.keep hW (fun _ _ => id)⟩ (by omega))
  have HW := Lib.hid hW
  clear hr hW
  go_enter Try.func19, Try.ntmps19
  go_wp2_with fail
  refine HS.out.mono ?_
  rintro e w1 ⟨o, rfl, hok, hrep, hm, hO1, hf1⟩
  have HO1 : Hid (Only (fun _ => False) w w1) := Lib.hid (HW.out.trans hO1 (fun _ _ f => f))
  have HM := Lib.hid hm
  clear hO1 hf1 hm
  go_wp2_with fail
  refine (word o b i _ hok hrep hi).mono ?_
  rintro e w2 ⟨W, hW1, hW2, rfl, rfl⟩
  clear hok hrep
  go_wp2_with fail
  go_ret
  exact ⟨W, hW1, hW2, rfl, HO1.out⟩
end Go.Proofs.Ytjmgidedaodlpaa.bs

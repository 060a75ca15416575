/-
  PreviousSet and PreviousClear of the thin package.
-/
import Derived.Test.YtjmgidedaodlpaaBsPrevC
import Derived.Test.YtjmgidedaodlpaaBsLaw
namespace Go.Proofs.Ytjmgidedaodlpaa.bs
open Go.RowKit Go.Proofs.Ytjmgidedaodlpaa.base Go.Proofs.Ytjmgidedaodlpaa.heap Go.Proofs.Ytjmgidedaodlpaa.bit
set_option linter.unusedVariables false

/-- a place, and whether there is one -/
def RetPlace (R : Option Nat) (w0 : World) (e : Ending) (w' : World) : Prop := e = .returned (.tuple #[.int .u64 ((R.getD 0 : Nat) : Int), .bool R.isSome]) ∧ Same w0 w'

theorem prevSet' (o : O) (b : List Bool) (i : Nat) (R : Option Nat) (w : World) (h : o.ok w) (hr : o.rep b) (hi : i < b.length) (hn : i < 1048576) (hR : Hid (lastTo (fun q => b.getD q false == true) (i + 1) = R)) :
    Calls Try.prog 43 #[o.ptr, .int .u64 (i : Int)] w fun e w' => e = .returned (.tuple #[.int .u64 ((R.getD 0 : Nat) : Int), .bool R.isSome]) ∧ w' = w :=
  prevSet o i R w h hn (by have := hr.room; omega) (Lib.hid (by rw [← hR.out]; exact lastTo_congr _ fun q _ => by rw [hr.bits q]; cases b.getD q false <;> rfl))
theorem prevClear' (o : O) (b : List Bool) (i : Nat) (R : Option Nat) (w : World) (h : o.ok w) (hr : o.rep b) (hi : i < b.length) (hn : i < 1048576) (hR : Hid (lastTo (fun q => b.getD q false == false) (i + 1) = R)) :
    Calls Try.prog 44 #[o.ptr, .int .u64 (i : Int)] w fun e w' => e = .returned (.tuple #[.int .u64 ((R.getD 0 : Nat) : Int), .bool R.isSome]) ∧ w' = w :=
  prevClear o i R w h hn (by have := hr.room; omega) (by have := hr.len; omega) (Lib.hid (by rw [← hR.out]; exact lastTo_congr _ fun q _ => by unfold cbit; rw [hr.bits q]; cases b.getD q false <;> rfl))

set_option maxRecDepth 100000 in
set_option maxHeartbeats 800000 in
theorem implPreviousSet (v : Value) (b : List Bool) (i : Nat) (R : Option Nat) (w : World) (h : BV w v b) (hn : b.length ≤ 1048000) (hi : i < b.length) (hR : Hid (lastTo (fun q => b.getD q false == true) (i + 1) = R)) :
    Calls Try.prog 27 #[v, .int .u64 (i : Int)] w (RetPlace R w) := by
  obtain ⟨a, m, cap, rfl, hr⟩ := h
  have hW : Only (fun _ => False) w (w.alloc (.cells #[.int .u64 (b.length : Int), .slice a m cap] 33)) := (Only.refl _ w).alloc _
  have HS := Lib.hid (set64 (.agg #[.int .u64 (b.length : Int), .slice a m cap]) b _ ⟨a, m, cap, rfl, hr.keep hW (fun _ _ => id)⟩ (by omega))
  have HW := Lib.hid hW
  clear hr hW
  go_enter Try.func27, Try.ntmps27
  go_wp2_with fail
  refine HS.out.mono ?_
  rintro e w1 ⟨o, rfl, hok, hrep, hm, hO1, hf1⟩
  have HO1 : Hid (Only (fun _ => False) w w1) := Lib.hid (HW.out.trans hO1 (fun _ _ f => f))
  have HM := Lib.hid hm
  clear hO1 hf1 hm
  go_wp2_with fail
  refine (prevSet' o b i R _ hok hrep hi (by omega) hR).mono ?_
  rintro e w2 ⟨rfl, rfl⟩
  clear hok hrep
  go_wp2_with fail
  go_ret2
  exact ⟨rfl, HO1.out⟩

set_option maxRecDepth 100000 in
set_option maxHeartbeats 800000 in
theorem implPreviousClear (v : Value) (b : List Bool) (i : Nat) (R : Option Nat) (w : World) (h : BV w v b) (hn : b.length ≤ 1048000) (hi : i < b.length) (hR : Hid (lastTo (fun q => b.getD q false == false) (i + 1) = R)) :
    Calls Try.prog 28 #[v, .int .u64 (i : Int)] w (RetPlace R w) := by
  obtain ⟨a, m, cap, rfl, hr⟩ := h
  have hW : Only (fun _ => False) w (w.alloc (.cells #[.int .u64 (b.length : Int), .slice a m cap] 33)) := (Only.refl _ w).alloc _
  have HS := Lib.hid (set64 (.agg #[.int .u64 (b.length : Int), .slice a m cap]) b _ ⟨a, m, cap, rfl, hr.keep hW (fun _ _ => id)⟩ (by omega))
  have HW := Lib.hid hW
  clear hr hW
  go_enter Try.func28, Try.ntmps28
  go_wp2_with fail
  refine HS.out.mono ?_
  rintro e w1 ⟨o, rfl, hok, hrep, hm, hO1, hf1⟩
  have HO1 : Hid (Only (fun _ => False) w w1) := Lib.hid (HW.out.trans hO1 (fun _ _ f => f))
  have HM := Lib.hid hm
  clear hO1 hf1 hm
  go_wp2_with fail
  refine (prevClear' o b i R _ hok hrep hi (by omega) hR).mono ?_
  rintro e w2 ⟨rfl, rfl⟩
  clear hok hrep
  go_wp2_with fail
  go_ret2
  exact ⟨rfl, HO1.out⟩
end Go.Proofs.Ytjmgidedaodlpaa.bs

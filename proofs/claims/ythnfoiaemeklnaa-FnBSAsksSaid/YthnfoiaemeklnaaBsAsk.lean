/-
  The thin package's functions that ask one bitset: Test, Count, Len, Any, None, All; BSCount of the reference. Printed by a program of mine.
-/
import Derived.Test.YthnfoiaemeklnaaBsCount
import Derived.Test.YthnfoiaemeklnaaBsLaw
import Derived.Test.YthnfoiaemeklnaaBsSet64
import Derived.Test.YthnfoiaemeklnaaBsOps2
namespace Go.Proofs.Ythnfoiaemeklnaa.bs
open Go.RowKit Go.Proofs.Ythnfoiaemeklnaa.base Go.Proofs.Ythnfoiaemeklnaa.heap Go.Proofs.Ythnfoiaemeklnaa.bit
set_option linter.unusedVariables false

/-- no bit is set -/
def noBits (b : List Bool) : Bool := decide ((ones b).length = 0)
theorem none_q (o : O) (b : List Bool) (w : World) (h : o.ok w) (hr : o.rep b) (hn : o.m ≤ 1048576) : Calls Try.prog 51 #[o.ptr] w fun e w' => e = .returned (.bool (noBits b)) ∧ ∃ m, w' = w.drewN m := bs_none o b w h hr hn
theorem any_q (o : O) (b : List Bool) (w : World) (h : o.ok w) (hr : o.rep b) (hn : o.m ≤ 1048576) : Calls Try.prog 50 #[o.ptr] w fun e w' => e = .returned (.bool (!noBits b)) ∧ ∃ m, w' = w.drewN m := bs_any o b w h hr hn
theorem len_q (o : O) (b : List Bool) (w : World) (h : o.ok w) (hr : o.rep b) : Calls Try.prog 49 #[o.ptr] w fun e w' => e = .returned (.int .u64 (b.length : Int)) ∧ ∃ m, w' = w.drewN m :=
  (bs_len o w h).mono fun e w' ⟨he, hw⟩ => ⟨by rw [he, hr.len], 0, hw⟩

set_option maxRecDepth 100000 in
set_option maxHeartbeats 800000 in
theorem implTest (v : Value) (b : List Bool) (i : Nat) (w : World) (h : BV w v b) (hn : b.length ≤ 1048000) (hi : i < 1048576) :
    Calls Try.prog 17 #[v, .int .u64 (i : Int)] w (RetV (.bool (b.getD i false)) w) := by
  obtain ⟨a, m, cap, rfl, hr⟩ := h
  have hW : Only (fun _ => False) w (w.alloc (.cells #[.int .u64 (b.length : Int), .slice a m cap] 25)) := (Only.refl _ w).alloc _
  have HS := Lib.hid (set64 (.agg #[.int .u64 (b.length : Int), .slice a m cap]) b _ ⟨a, m, cap, rfl, hr.keep hW (fun _ _ => id)⟩ (by omega))
  have HW := Lib.hid hW
  clear hr hW
  go_enter Try.func17, Try.ntmps17
  go_wp2_with fail
  refine HS.out.mono ?_
  rintro e w1 ⟨o, rfl, hok, hrep, hm, hO1, hf1⟩
  have HO1 : Hid (Only (fun _ => False) w w1) := Lib.hid (HW.out.trans hO1 (fun _ _ f => f))
  have hom : o.m ≤ 1048576 := by omega
  have HC := Lib.hid (test o b i w1 hok hrep (by omega))
  clear hO1 hf1 hm hok hrep hom
  go_wp2_with fail
  refine HC.out.mono ?_
  rintro e w2 ⟨rfl, q, rfl⟩
  go_wp2_with fail
  go_ret
  exact ⟨rfl, HO1.out.drewN q⟩

set_option maxRecDepth 100000 in
set_option maxHeartbeats 800000 in
theorem implCount (v : Value) (b : List Bool) (w : World) (h : BV w v b) (hn : b.length ≤ 1048000) :
    Calls Try.prog 19 #[v] w (RetV (.int .u64 ((ones b).length : Int)) w) := by
  obtain ⟨a, m, cap, rfl, hr⟩ := h
  have hW : Only (fun _ => False) w (w.alloc (.cells #[.int .u64 (b.length : Int), .slice a m cap] 25)) := (Only.refl _ w).alloc _
  have HS := Lib.hid (set64 (.agg #[.int .u64 (b.length : Int), .slice a m cap]) b _ ⟨a, m, cap, rfl, hr.keep hW (fun _ _ => id)⟩ (by omega))
  have HW := Lib.hid hW
  clear hr hW
  go_enter Try.func19, Try.ntmps19
  go_wp2_with fail
  refine HS.out.mono ?_
  rintro e w1 ⟨o, rfl, hok, hrep, hm, hO1, hf1⟩
  have HO1 : Hid (Only (fun _ => False) w w1) := Lib.hid (HW.out.trans hO1 (fun _ _ f => f))
  have hom : o.m ≤ 1048576 := by omega
  have HC := Lib.hid (count o b w1 hok hrep hom)
  clear hO1 hf1 hm hok hrep hom
  go_wp2_with fail
  refine HC.out.mono ?_
  rintro e w2 ⟨rfl, q, rfl⟩
  go_wp2_with fail
  go_ret
  exact ⟨rfl, HO1.out.drewN q⟩

set_option maxRecDepth 100000 in
set_option maxHeartbeats 800000 in
theorem implLen (v : Value) (b : List Bool) (w : World) (h : BV w v b) (hn : b.length ≤ 1048000) :
    Calls Try.prog 20 #[v] w (RetV (.int .u64 (b.length : Int)) w) := by
  obtain ⟨a, m, cap, rfl, hr⟩ := h
  have hW : Only (fun _ => False) w (w.alloc (.cells #[.int .u64 (b.length : Int), .slice a m cap] 25)) := (Only.refl _ w).alloc _
  have HS := Lib.hid (set64 (.agg #[.int .u64 (b.length : Int), .slice a m cap]) b _ ⟨a, m, cap, rfl, hr.keep hW (fun _ _ => id)⟩ (by omega))
  have HW := Lib.hid hW
  clear hr hW
  go_enter Try.func20, Try.ntmps20
  go_wp2_with fail
  refine HS.out.mono ?_
  rintro e w1 ⟨o, rfl, hok, hrep, hm, hO1, hf1⟩
  have HO1 : Hid (Only (fun _ => False) w w1) := Lib.hid (HW.out.trans hO1 (fun _ _ f => f))
  have hom : o.m ≤ 1048576 := by omega
  have HC := Lib.hid (len_q o b w1 hok hrep)
  clear hO1 hf1 hm hok hrep hom
  go_wp2_with fail
  refine HC.out.mono ?_
  rintro e w2 ⟨rfl, q, rfl⟩
  go_wp2_with fail
  go_ret
  exact ⟨rfl, HO1.out.drewN q⟩

set_option maxRecDepth 100000 in
set_option maxHeartbeats 800000 in
theorem implAny (v : Value) (b : List Bool) (w : World) (h : BV w v b) (hn : b.length ≤ 1048000) :
    Calls Try.prog 21 #[v] w (RetV (.bool (!noBits b)) w) := by
  obtain ⟨a, m, cap, rfl, hr⟩ := h
  have hW : Only (fun _ => False) w (w.alloc (.cells #[.int .u64 (b.length : Int), .slice a m cap] 25)) := (Only.refl _ w).alloc _
  have HS := Lib.hid (set64 (.agg #[.int .u64 (b.length : Int), .slice a m cap]) b _ ⟨a, m, cap, rfl, hr.keep hW (fun _ _ => id)⟩ (by omega))
  have HW := Lib.hid hW
  clear hr hW
  go_enter Try.func21, Try.ntmps21
  go_wp2_with fail
  refine HS.out.mono ?_
  rintro e w1 ⟨o, rfl, hok, hrep, hm, hO1, hf1⟩
  have HO1 : Hid (Only (fun _ => False) w w1) := Lib.hid (HW.out.trans hO1 (fun _ _ f => f))
  have hom : o.m ≤ 1048576 := by omega
  have HC := Lib.hid (any_q o b w1 hok hrep hom)
  clear hO1 hf1 hm hok hrep hom
  go_wp2_with fail
  refine HC.out.mono ?_
  rintro e w2 ⟨rfl, q, rfl⟩
  go_wp2_with fail
  go_ret
  exact ⟨rfl, HO1.out.drewN q⟩

set_option maxRecDepth 100000 in
set_option maxHeartbeats 800000 in
theorem implNone (v : Value) (b : List Bool) (w : World) (h : BV w v b) (hn : b.length ≤ 1048000) :
    Calls Try.prog 22 #[v] w (RetV (.bool (noBits b)) w) := by
  obtain ⟨a, m, cap, rfl, hr⟩ := h
  have hW : Only (fun _ => False) w (w.alloc (.cells #[.int .u64 (b.length : Int), .slice a m cap] 25)) := (Only.refl _ w).alloc _
  have HS := Lib.hid (set64 (.agg #[.int .u64 (b.length : Int), .slice a m cap]) b _ ⟨a, m, cap, rfl, hr.keep hW (fun _ _ => id)⟩ (by omega))
  have HW := Lib.hid hW
  clear hr hW
  go_enter Try.func22, Try.ntmps22
  go_wp2_with fail
  refine HS.out.mono ?_
  rintro e w1 ⟨o, rfl, hok, hrep, hm, hO1, hf1⟩
  have HO1 : Hid (Only (fun _ => False) w w1) := Lib.hid (HW.out.trans hO1 (fun _ _ f => f))
  have hom : o.m ≤ 1048576 := by omega
  have HC := Lib.hid (none_q o b w1 hok hrep hom)
  clear hO1 hf1 hm hok hrep hom
  go_wp2_with fail
  refine HC.out.mono ?_
  rintro e w2 ⟨rfl, q, rfl⟩
  go_wp2_with fail
  go_ret
  exact ⟨rfl, HO1.out.drewN q⟩

set_option maxRecDepth 100000 in
set_option maxHeartbeats 800000 in
theorem implAll (v : Value) (b : List Bool) (w : World) (h : BV w v b) (hn : b.length ≤ 1048000) :
    Calls Try.prog 23 #[v] w (RetV (.bool (((ones b).length : Int) == (b.length : Int))) w) := by
  obtain ⟨a, m, cap, rfl, hr⟩ := h
  have hW : Only (fun _ => False) w (w.alloc (.cells #[.int .u64 (b.length : Int), .slice a m cap] 25)) := (Only.refl _ w).alloc _
  have HS := Lib.hid (set64 (.agg #[.int .u64 (b.length : Int), .slice a m cap]) b _ ⟨a, m, cap, rfl, hr.keep hW (fun _ _ => id)⟩ (by omega))
  have HW := Lib.hid hW
  clear hr hW
  go_enter Try.func23, Try.ntmps23
  go_wp2_with fail
  refine HS.out.mono ?_
  rintro e w1 ⟨o, rfl, hok, hrep, hm, hO1, hf1⟩
  have HO1 : Hid (Only (fun _ => False) w w1) := Lib.hid (HW.out.trans hO1 (fun _ _ f => f))
  have hom : o.m ≤ 1048576 := by omega
  have HC := Lib.hid (bs_all o b w1 hok hrep hom)
  clear hO1 hf1 hm hok hrep hom
  go_wp2_with fail
  refine HC.out.mono ?_
  rintro e w2 ⟨rfl, q, rfl⟩
  go_wp2_with fail
  go_ret
  exact ⟨rfl, HO1.out.drewN q⟩

/-- BSCount, of all bits -/
theorem bsCount (a : Option Addr) (cap : Nat) (b : List Bool) (w : World) (h : RB w a b.length cap b) (hn : b.length ≤ 1048576) :
    Calls Try.prog 16 #[.slice a b.length cap, .int .i64 0, .int .i64 (b.length : Int)] w fun e w' => e = .returned (.int .u64 ((ones b).length : Int)) ∧ w' = w := by
  have H := Lib.hid h
  clear h
  go_enter Try.func16, Try.ntmps16
  go_wp2
  go_loop [7, 8] (fun c i => ∃ k m : Nat, k ≤ b.length ∧ c = .int .u64 (m : Int) ∧ i = .int .i64 (k : Int) ∧ Hid (m = (onesTo b k).length)) (fun _ i => b.length - (intOf i).toNat)
  case atStart => exact ⟨0, 0, Nat.zero_le _, rfl, rfl, Lib.hid rfl⟩
  case round =>
    obtain ⟨k, m, hk, rfl, rfl, HM⟩ := hrel
    have hmk : m ≤ k := by have := HM.out; have := onesTo_le b k; omega
    by_cases hlt : k < b.length
    · obtain ⟨x, off, rfl, hx, hc⟩ := H.out.at (by omega)
      have c := hc k hlt
      have hlt' : (k : Int) < (b.length : Int) := by omega
      clear hc
      cases hg : b.getD k false
      · have HG : Hid (onesTo b (k + 1) = onesTo b k) := Lib.hid (onesTo_no b k hg)
        rw [hg] at c
        clear hg
        go_wp2
        go_round
        case rel => exact ⟨k + 1, m, by omega, rfl, by go_num, Lib.hid (by rw [HM.out, HG.out])⟩
        case measure => simp [intOf]; omega
      · have HG : Hid (onesTo b (k + 1) = onesTo b k ++ [k]) := Lib.hid (onesTo_yes b k hg)
        rw [hg] at c
        clear hg
        go_wp2
        go_round
        case rel => exact ⟨k + 1, m + 1, by omega, by go_num, by go_num, Lib.hid (by rw [HM.out, HG.out, List.length_append]; rfl)⟩
        case measure => simp [intOf]; omega
    · have hge : ¬ (k : Int) < (b.length : Int) := by omega
      have hfin : m = (ones b).length := by rw [HM.out]; unfold ones; congr 2; omega
      go_wp2
      go_ret
      exact ⟨ret_int (by first | rfl | rw [hfin]), rfl⟩
end Go.Proofs.Ythnfoiaemeklnaa.bs

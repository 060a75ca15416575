/-
  BLSame of the reference.
-/
import Derived.Test.YtpiajkabikbdnaaBlSpec
namespace Go.Proofs.Ytpiajkabikbdnaa.bs
open Go.RowKit Go.Proofs.Ytpiajkabikbdnaa.base Go.Proofs.Ytpiajkabikbdnaa.heap Go.Proofs.Ytpiajkabikbdnaa.bit
set_option linter.unusedVariables false

set_option maxRecDepth 100000 in
set_option maxHeartbeats 1600000 in
theorem blSame_m (M K k : Nat) (a : Option Addr) (n cap : Nat) (a' : Option Addr) (m' cap' : Nat) (w : World) (hne : M ≠ m') (hn : n ≤ cap ∧ cap ≤ 9223372036854775807) (hm : m' ≤ 1048576) (hM : M ≤ 1048576) :
    Calls Try.prog 14 #[.agg #[.int .u64 (M : Int), .int .u64 (K : Int), .slice a n cap], .int .u64 (k : Int), .slice a' m' cap'] w (FV w (.bool false)) := by
  have h1 : ((M : Int) != (m' : Int)) = true := by simp; omega
  have h2 : ((M : Int) == (m' : Int)) = false := by simp; omega
  go_enter Try.func14, Try.ntmps14
  go_wp2_with fail
  go_ret
  exact ⟨rfl, (Only.refl _ w).alloc _⟩

set_option maxRecDepth 100000 in
set_option maxHeartbeats 1600000 in
theorem blSame_k (M K k : Nat) (a : Option Addr) (n cap : Nat) (a' : Option Addr) (cap' : Nat) (w : World) (hne : K ≠ k) (hn : n ≤ cap ∧ cap ≤ 9223372036854775807) (hM : M ≤ 1048576) :
    Calls Try.prog 14 #[.agg #[.int .u64 (M : Int), .int .u64 (K : Int), .slice a n cap], .int .u64 (k : Int), .slice a' M cap'] w (FV w (.bool false)) := by
  have h1 : ((K : Int) != (k : Int)) = true := by simp; omega
  have h2 : ((K : Int) == (k : Int)) = false := by simp; omega
  go_enter Try.func14, Try.ntmps14
  go_wp2_with fail
  go_ret
  exact ⟨rfl, (Only.refl _ w).alloc _⟩

set_option maxRecDepth 100000 in
set_option maxHeartbeats 1600000 in
theorem blSame_b (b : List Bool) (K : Nat) (a : Option Addr) (n cap : Nat) (l : List Nat) (a' : Option Addr) (cap' : Nat) (w : World) (h : RU w a n cap l) (hok : Ok l) (hM : b.length ≤ 64 * n) (hn : n ≤ 16384) (hb : RB w a' b.length cap' b) :
    Calls Try.prog 14 #[.agg #[.int .u64 (b.length : Int), .int .u64 (K : Int), .slice a n cap], .int .u64 (K : Int), .slice a' b.length cap'] w (FV w (.bool (decide (bitsOf l b.length = b)))) := by
  have hbd := h.1.bound
  have hbd' := hb.1.bound
  have HB : Hid (∀ wx, Same w wx → RB wx a' b.length cap' b) := Lib.hid (fun wx hx => hb.keep hx (fun _ _ => id))
  have HBL : Hid (∀ wx, Same w wx → Calls Try.prog 12 #[.agg #[.int .u64 (b.length : Int), .int .u64 (K : Int), .slice a n cap]] wx (FBools wx (bitsOf l b.length))) := Lib.hid (fun wx hx => fbools (Only.refl _ _) (blBits b.length K a n cap l wx (h.keep hx (fun _ _ => id)) hok hM hn))
  have HLD : Hid ((bitsOf l b.length).length = b.length) := Lib.hid (bitsOf_len _ _)
  generalize bitsOf l b.length = d at *
  clear h hok hb
  have hnM : ¬ (n : Int) < ((b.length : Int) + 63) / 64 := by omega
  go_enter Try.func14, Try.ntmps14
  go_wp2_with fail
  obtain ⟨W, hW, hS, hB, hk⟩ := newBlock w #[.int .u64 (b.length : Int), .int .u64 (K : Int), .slice a n cap] 26
  rw [← hW]
  have HS := Lib.hid hS
  clear hW hB hk hS
  refine (HBL.out W HS.out).mono ?_
  rintro e w1 ⟨a1, cap1, rfl, hb1, hO1⟩
  have HO1 : Hid (Same w w1) := Lib.hid (Same.trans HS.out hO1)
  have HB1 : Hid (∀ wx, Same w1 wx → RB wx a1 d.length cap1 d) := Lib.hid (fun wx hx => hb1.keep hx (fun _ _ => id))
  have hbd1 := hb1.1.bound
  have hdl : d.length = b.length := HLD.out
  rw [hdl] at HB1 hbd1
  rw [hdl]
  clear hb1 hO1 HS HBL hdl
  go_wp2_with fail
  go_loopw [8] (fun i wr => ∃ k : Nat, k ≤ b.length ∧ i = .int .i64 (k : Int) ∧ Same w1 wr ∧ ∀ j, j < k → d.getD j false = b.getD j false) (fun i _ => b.length - (intOf i).toNat)
  case atStart => exact ⟨0, Nat.zero_le _, rfl, Only.refl _ _, fun j hj => by omega⟩
  case round =>
    obtain ⟨k, hk, rfl, hO, hpre⟩ := hrel
    have HO := Lib.hid hO
    have HPRE := Lib.hid hpre
    clear hO hpre
    by_cases hlt : k < b.length
    · have hlt' : (k : Int) < (b.length : Int) := by omega
      obtain ⟨x, off, rfl, hx, hc⟩ := (HB1.out wr HO.out).at (by omega)
      have c := hc k hlt
      obtain ⟨x', off', rfl, hx', hc'⟩ := (HB.out wr (Same.trans HO1.out HO.out)).at (by omega)
      have c' := hc' k hlt
      clear hc hc'
      by_cases he : d.getD k false = b.getD k false
      · have HE := Lib.hid he
        rw [he] at c
        generalize hy : b.getD k false = y at c c'
        have hyy : (y != y) = false := by simp
        have HY := Lib.hid hy
        clear he hy
        go_wp2_with fail
        go_quiet (fail)
        go_wp2
        go_roundw
        case rel => exact ⟨k + 1, by omega, by go_num, HO.out.drewN _, fun j hj => by
          by_cases e : j = k
          · rw [e]; exact HE.out
          · exact HPRE.out j (by omega)⟩
        case measure => simp [intOf]; omega
      · have HN : Hid (decide (d = b) = false) := Lib.hid (decide_eq_false (fun e => he (by rw [e])))
        generalize hy : b.getD k false = y at *
        generalize hz : d.getD k false = z at *
        have hyy : (z != y) = true := by simpa using he
        have hyz : (z == y) = false := by simpa using he
        clear he hy hz
        go_wp2_with fail
        go_quiet (fail)
        go_wp2
        go_ret
        exact ⟨by rw [HN.out]; rfl, Same.trans HO1.out (HO.out.drewN _)⟩
    · obtain rfl : k = b.length := by omega
      have HN : Hid (decide (d = b) = true) := Lib.hid (decide_eq_true (ext_getD HLD.out (fun i hi => HPRE.out i (by rw [← HLD.out]; exact hi))))
      go_wp2_with fail
      go_ret
      exact ⟨by rw [HN.out]; rfl, Same.trans HO1.out HO.out⟩
end Go.Proofs.Ytpiajkabikbdnaa.bs

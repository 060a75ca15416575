/-
  The law's last answers; equal lists of entries.
-/
import Derived.Test.YtcjifjfcjimefaaDoorZXfItems
import Derived.Deep.LoopGhost
import Derived.Deep.DeepCutAuto
namespace Go.Proofs.YtcjifjfcjimefaaDoor.xf
open Go.RowKit Go.Proofs.YtcjifjfcjimefaaDoor.base Go.Proofs.YtcjifjfcjimefaaDoor.heap Go.Proofs.YtcjifjfcjimefaaDoor.rows Go.Proofs.YtcjifjfcjimefaaDoor.mapn
set_option linter.unusedVariables false

set_option maxRecDepth 100000 in
theorem trTail_of (w : World) (b off n cap : Nat) (hn : 2 ≤ n) (hc : n ≤ cap) (hm : cap ≤ 9223372036854775807) (hn2 : n ≤ 1000) : Calls Tryd.prog 9 #[.slice (some ⟨b, off, none⟩) n cap, .int .i64 2] w (SayP (.slice (some ⟨b, off + (n - 2) * 3, none⟩) 2 (cap - (n - 2))) w) := by
  have h1 : ¬ (n : Int) < 2 := by omega
  obtain ⟨k, rfl⟩ : ∃ k, n = k + 2 := ⟨n - 2, by omega⟩
  have h2 : ((k + 2 : Nat) : Int) - 2 = (k : Int) := by omega
  rw [Nat.add_sub_cancel]
  go_enter Tryd.func9, Tryd.ntmps9
  go_wp2_with fail
  go_ret
  exact ⟨rfl, Only.refl _ _⟩
set_option maxRecDepth 100000 in
theorem sameItems (w : World) (a a' : Option Addr) (n cap cap' : Nat) (l : List It) (h : RS itc 2 w a n cap l) (h' : RS itc 2 w a' n cap' l) : Calls Tryd.prog 19 #[.slice a n cap, .slice a' n cap'] w (SayP (.bool true) w) := by
  have HA := Lib.hid h
  have HB := Lib.hid h'
  have bd := h.bound
  have bd' := h'.bound
  clear h h'
  go_enter Tryd.func19, Tryd.ntmps19
  go_wp2_with fail
  go_loopw [5] (fun i wr => ∃ j : Nat, i = .int .i64 (j : Int) ∧ j ≤ n ∧ Hid (Same w wr)) (fun i _ => n - (intOf i).toNat)
  case atStart => exact ⟨0, rfl, Nat.zero_le _, Lib.hid (Only.refl _ _)⟩
  case round =>
    obtain ⟨j, rfl, hj, HS⟩ := hrel
    by_cases hlt : j < n
    · have hlt' : (j : Int) < (n : Int) := by omega
      obtain ⟨y, hy⟩ := HA.out.get hlt
      obtain ⟨b, off, ha, hb, hc⟩ := (HA.out.still HS.out).at itc_len (by omega)
      obtain ⟨b', off', ha', hb', hc'⟩ := (HB.out.still HS.out).at itc_len (by omega)
      have c0 : wr.cell? ⟨b, off + j * 2, none⟩ = some (.int .u64 (y.1 : Int)) := hc j y hy 0 _ rfl
      have c1 : wr.cell? ⟨b, off + j * 2 + 1, none⟩ = some (.int .i64 y.2) := hc j y hy 1 _ rfl
      have d0 : wr.cell? ⟨b', off' + j * 2, none⟩ = some (.int .u64 (y.1 : Int)) := hc' j y hy 0 _ rfl
      have d1 : wr.cell? ⟨b', off' + j * 2 + 1, none⟩ = some (.int .i64 y.2) := hc' j y hy 1 _ rfl
      subst ha ha'
      clear hc hc' hy
      go_wp2_with fail
      go_region
      all_goals
        go_wp2_with fail
        exact ⟨⟨j + 1, by go_num, by omega, Lib.hid HS.out.drew⟩, by simp [intOf]; omega⟩
    · have hlt' : ¬ (j : Int) < (n : Int) := by omega
      obtain rfl : j = n := by omega
      go_wp2_with fail
      go_ret
      exact ⟨rfl, HS.out⟩
end Go.Proofs.YtcjifjfcjimefaaDoor.xf

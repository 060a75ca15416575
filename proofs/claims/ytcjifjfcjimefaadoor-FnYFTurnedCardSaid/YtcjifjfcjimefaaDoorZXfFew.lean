/-
  zzFits17, zzFits18; steps that are read; equal answers.
-/
import Derived.Test.YtcjifjfcjimefaaDoorZXfSame
import Derived.Test.YtcjifjfcjimefaaDoorMB
import Derived.Deep.RegionHeld3
namespace Go.Proofs.YtcjifjfcjimefaaDoor.xf
open Go.ChangeShapes Go.WideShapes Go.ChangeAt Go.RowKit Go.Proofs.YtcjifjfcjimefaaDoor.base Go.Proofs.YtcjifjfcjimefaaDoor.heap Go.Proofs.YtcjifjfcjimefaaDoor.rows
set_option linter.unusedVariables false

/-- said of a test that changes nothing -/
def BoolP (w : World) (p : Prop) (e : Ending) (w' : World) : Prop := ∃ b : Bool, e = .returned (.bool b) ∧ Same w w' ∧ (b = true → p)
/-- an answer as another says -/
def SameAn (x y : An) : Prop := x.L = y.L ∧ x.num = y.num ∧ x.yes = y.yes
set_option maxRecDepth 100000 in
set_option maxHeartbeats 1600000 in
theorem trSame_of (w : World) (a a' : Option Addr) (n cap cap' : Nat) (l l' : List An) (h : RS anc 3 w a n cap l) (h' : RS anc 3 w a' n cap' l') (hi : ∀ x ∈ l, AnIn w x) (hi' : ∀ x ∈ l', AnIn w x) (hs : ∀ (i : Nat) (x y : An), l[i]? = some x → l'[i]? = some y → SameAn x y) :
    Calls Tryd.prog 13 #[.slice a n cap, .slice a' n cap'] w (SayP (.bool true) w) := by
  have HA := Lib.hid h
  have HB := Lib.hid h'
  have HI := Lib.hid hi
  have HI' := Lib.hid hi'
  have HS := Lib.hid hs
  have bd := h.bound
  have bd' := h'.bound
  clear h h' hi hi' hs
  go_enter Tryd.func13, Tryd.ntmps13
  go_wp2_with fail
  go_loopw [5] (fun i wr => ∃ j : Nat, i = .int .i64 (j : Int) ∧ j ≤ n ∧ Hid (Same w wr)) (fun i _ => n - (intOf i).toNat)
  case atStart => exact ⟨0, rfl, Nat.zero_le _, Lib.hid (Only.refl _ _)⟩
  case round =>
    obtain ⟨j, rfl, hj, HP⟩ := hrel
    by_cases hlt : j < n
    · have hlt' : (j : Int) < (n : Int) := by omega
      obtain ⟨x, hx⟩ := HA.out.get hlt
      obtain ⟨y, hy⟩ := HB.out.get hlt
      obtain ⟨b, off, ha, hb, hc⟩ := (HA.out.still HP.out).at anc_len (by omega)
      obtain ⟨b', off', ha', hb', hc'⟩ := (HB.out.still HP.out).at anc_len (by omega)
      obtain ⟨e1, e2, e3⟩ := HS.out j x y hx hy
      have i1 := HI.out x (List.mem_of_getElem? hx)
      have i2 := HI'.out y (List.mem_of_getElem? hy)
      have hnn : x.n = y.n := by rw [← i1.2, ← i2.2, e1]
      unfold AnIn at i1 i2
      rw [← e1, ← hnn] at i2
      have c0 : wr.cell? ⟨b, off + j * 3, none⟩ = some (.slice x.a x.n x.cap) := hc j x hx 0 _ rfl
      have c1 : wr.cell? ⟨b, off + j * 3 + 1, none⟩ = some (.int .u64 (x.num : Int)) := hc j x hx 1 _ rfl
      have c2 : wr.cell? ⟨b, off + j * 3 + 2, none⟩ = some (.bool x.yes) := hc j x hx 2 _ rfl
      have d0 : wr.cell? ⟨b', off' + j * 3, none⟩ = some (.slice y.a x.n y.cap) := by rw [hnn]; exact hc' j y hy 0 _ rfl
      have d1 : wr.cell? ⟨b', off' + j * 3 + 1, none⟩ = some (.int .u64 (x.num : Int)) := by rw [e2]; exact hc' j y hy 1 _ rfl
      have d2 : wr.cell? ⟨b', off' + j * 3 + 2, none⟩ = some (.bool x.yes) := by rw [e3]; exact hc' j y hy 2 _ rfl
      have HSI : Hid (∀ wx, Same w wx → Calls Tryd.prog 19 #[.slice x.a x.n x.cap, .slice y.a x.n y.cap] wx (SayP (.bool true) wx)) := Lib.hid (fun wx hx => sameItems wx x.a y.a x.n x.cap y.cap x.L (i1.still hx) (i2.still hx))
      subst ha ha'
      have HK : Hid (∀ wx, Same wr wx → (wx.cell? ⟨b, off + j * 3, none⟩ = some (.slice x.a x.n x.cap) ∧ wx.cell? ⟨b, off + j * 3 + 1, none⟩ = some (.int .u64 (x.num : Int)) ∧ wx.cell? ⟨b, off + j * 3 + 2, none⟩ = some (.bool x.yes)) ∧ (wx.cell? ⟨b', off' + j * 3, none⟩ = some (.slice y.a x.n y.cap) ∧ wx.cell? ⟨b', off' + j * 3 + 1, none⟩ = some (.int .u64 (x.num : Int)) ∧ wx.cell? ⟨b', off' + j * 3 + 2, none⟩ = some (.bool x.yes))) := Lib.hid (fun wx hx => ⟨⟨(hx.cell (p := ⟨b, off + j * 3, none⟩) hb id).trans c0, (hx.cell (p := ⟨b, off + j * 3 + 1, none⟩) hb id).trans c1, (hx.cell (p := ⟨b, off + j * 3 + 2, none⟩) hb id).trans c2⟩, ⟨(hx.cell (p := ⟨b', off' + j * 3, none⟩) hb' id).trans d0, (hx.cell (p := ⟨b', off' + j * 3 + 1, none⟩) hb' id).trans d1, (hx.cell (p := ⟨b', off' + j * 3 + 2, none⟩) hb' id).trans d2⟩⟩)
      have HCL : Hid (∀ wx, Same wr wx → Calls Tryd.prog 19 #[.slice x.a x.n x.cap, .slice y.a x.n y.cap] wx fun e w' => e = .returned (.bool true) ∧ Same wr w') := Lib.hid (fun wx hx => (HSI.out wx (HP.out.trans hx)).mono (fun e w' h => ⟨h.1, hx.trans h.2⟩))
      clear hc hc' hx hy e1 e2 e3 i1 i2 hnn HSI HS HI HI'
      go_wp2_with fail
      go_region_held3 (fun wx => (wx.cell? ⟨b, off + j * 3, none⟩ = some (.slice x.a x.n x.cap) ∧ wx.cell? ⟨b, off + j * 3 + 1, none⟩ = some (.int .u64 (x.num : Int)) ∧ wx.cell? ⟨b, off + j * 3 + 2, none⟩ = some (.bool x.yes)) ∧ (wx.cell? ⟨b', off' + j * 3, none⟩ = some (.slice y.a x.n y.cap) ∧ wx.cell? ⟨b', off' + j * 3 + 1, none⟩ = some (.int .u64 (x.num : Int)) ∧ wx.cell? ⟨b', off' + j * 3 + 2, none⟩ = some (.bool x.yes)))
        (first | exact HK.out _ (by repeat (first | assumption | exact Only.refl _ _ | apply Only.drew | apply Only.alloc)) | fail)
        (first
          | ((go_at_call 19; (with_reducible refine (HCL.out _ (by repeat (first | assumption | exact Only.refl _ _ | apply Only.drew | apply Only.alloc))).mono ?_); rintro e wy ⟨rfl, hsy⟩))
          | fail)
      all_goals
        go_wp2_with fail
        exact ⟨⟨j + 1, by go_num, by omega, Lib.hid (HP.out.trans (by repeat (first | assumption | exact Only.refl _ _ | apply Only.drew | apply Only.alloc)))⟩, by simp [intOf]; omega⟩
    · have hlt' : ¬ (j : Int) < (n : Int) := by omega
      obtain rfl : j = n := by omega
      go_wp2_with fail
      go_ret
      exact ⟨rfl, HP.out⟩
end Go.Proofs.YtcjifjfcjimefaaDoor.xf

/-
  zzFits17, zzFits18; steps that are read; equal answers.
-/
import Derived.Test.YtkplikpncpcjdaaDoorXfSame
import Derived.Test.YtkplikpncpcjdaaDoorRead
import Derived.Deep.RegionHeld3
namespace Go.Proofs.YtkplikpncpcjdaaDoor.xf
open Go.ChangeShapes Go.WideShapes Go.ChangeAt Go.RowKit Go.Proofs.YtkplikpncpcjdaaDoor.base Go.Proofs.YtkplikpncpcjdaaDoor.heap Go.Proofs.YtkplikpncpcjdaaDoor.rows
set_option linter.unusedVariables false

/-- said of a test that changes nothing -/
def BoolP (w : World) (p : Prop) (e : Ending) (w' : World) : Prop := ∃ b : Bool, e = .returned (.bool b) ∧ Same w w' ∧ (b = true → p)
set_option maxRecDepth 100000 in
theorem fits18 (s : Stp) (w : World) : Calls Tryd.prog 27 #[.agg #[.int .i64 s.op, .slice s.ia s.im s.ic, .slice s.ka s.km s.kc]] w (BoolP w True) := by
  by_cases h0 : (2147483647 : Int) < (s.im : Int)
  · go_enter Tryd.func27, Tryd.ntmps27
    go_wp2_with fail
    go_ret
    exact ⟨false, rfl, (Only.refl _ _).alloc _, fun h => trivial⟩
  · by_cases h1 : (2147483647 : Int) < (s.km : Int)
    · go_enter Tryd.func27, Tryd.ntmps27
      go_wp2_with fail
      go_ret
      exact ⟨false, rfl, (Only.refl _ _).alloc _, fun h => trivial⟩
    · go_enter Tryd.func27, Tryd.ntmps27
      go_wp2_with fail
      go_ret
      exact ⟨true, rfl, (Only.refl _ _).alloc _, fun h => trivial⟩
set_option maxRecDepth 100000 in
set_option maxHeartbeats 1600000 in
theorem fits17 (a : Option Addr) (n cap : Nat) (l : List Stp) (w : World) (h : RS stc 3 w a n cap l) : Calls Tryd.prog 12 #[.slice a n cap] w (BoolP w (n ≤ 2147483647)) := by
  have HR := Lib.hid h
  have hbd := h.bound
  clear h
  by_cases h0 : (2147483647 : Int) < (n : Int)
  · go_enter Tryd.func12, Tryd.ntmps12
    go_wp2_with fail
    go_ret
    exact ⟨false, rfl, Only.refl _ _, fun e => by cases e⟩
  · go_enter Tryd.func12, Tryd.ntmps12
    go_wp2_with fail
    go_loopw [10] (fun i wr => ∃ j : Nat, i = .int .i64 (j : Int) ∧ j ≤ n ∧ Hid (Same w wr)) (fun i _ => n - (intOf i).toNat)
    case atStart => exact ⟨0, rfl, Nat.zero_le _, Lib.hid (Only.refl _ _)⟩
    case round =>
      obtain ⟨j, rfl, hj, HP⟩ := hrel
      by_cases hlt : j < n
      · have hlt' : (j : Int) < (n : Int) := by omega
        obtain ⟨s, hs⟩ := HR.out.get hlt
        obtain ⟨b, off, ha, hb, hc⟩ := (HR.out.still HP.out).at stc_len (by omega)
        have hc2 := hc j s hs
        have c0 : wr.cell? ⟨b, off + j * 3, none⟩ = some (.int .i64 s.op) := hc2 0 _ rfl
        have c1 : wr.cell? ⟨b, off + j * 3 + 1, none⟩ = some (.slice s.ia s.im s.ic) := hc2 1 _ rfl
        have c2 : wr.cell? ⟨b, off + j * 3 + 2, none⟩ = some (.slice s.ka s.km s.kc) := hc2 2 _ rfl
        subst ha
        have HF : Hid (∀ wx, Calls Tryd.prog 27 #[.agg #[.int .i64 s.op, .slice s.ia s.im s.ic, .slice s.ka s.km s.kc]] wx (BoolP wx True)) := Lib.hid (fun wx => fits18 s wx)
        clear hc hc2 hs
        go_wp2_with fail
        refine (HF.out _).mono ?_
        rintro e w3 ⟨b3, rfl, hs3, _⟩
        have HS3 : Hid (Same w w3) := Lib.hid (HP.out.trans (((Only.refl (fun _ => False) wr).alloc _).trans hs3 (fun _ _ h => h)))
        clear hs3
        cases b3 with
        | false =>
          go_wp2_with fail
          go_ret
          exact ⟨false, rfl, HS3.out, fun e => by cases e⟩
        | true =>
          go_wp2_with fail
          go_roundw
          case rel => exact ⟨j + 1, by go_num, by omega, HS3⟩
          case measure => simp [intOf]; omega
      · have hlt' : ¬ (j : Int) < (n : Int) := by omega
        obtain rfl : j = n := by omega
        go_wp2_with fail
        go_ret
        exact ⟨true, rfl, HP.out, fun _ => by omega⟩
/-- an answer as another says -/
def SameAn (x y : An) : Prop := x.L = y.L ∧ x.num = y.num ∧ x.yes = y.yes
set_option maxRecDepth 100000 in
set_option maxHeartbeats 1600000 in
theorem trSame_of (w : World) (a a' : Option Addr) (n cap cap' : Nat) (l l' : List An) (h : RS anc 3 w a n cap l) (h' : RS anc 3 w a' n cap' l') (hi : ∀ x ∈ l, AnIn w x) (hi' : ∀ x ∈ l', AnIn w x) (hs : ∀ (i : Nat) (x y : An), l[i]? = some x → l'[i]? = some y → SameAn x y) :
    Calls Tryd.prog 14 #[.slice a n cap, .slice a' n cap'] w (SayP (.bool true) w) := by
  have HA := Lib.hid h
  have HB := Lib.hid h'
  have HI := Lib.hid hi
  have HI' := Lib.hid hi'
  have HS := Lib.hid hs
  have bd := h.bound
  have bd' := h'.bound
  clear h h' hi hi' hs
  go_enter Tryd.func14, Tryd.ntmps14
  go_wp2_with fail
  go_loopw [5] (fun i wr => ∃ j : Nat, i = .int .i64 (j : Int) ∧ j ≤ n ∧ Hid (Same w wr)) (fun i _ => n - (intOf i).toNat)
  case atStart => exact ⟨0, rfl, Nat.zero_le _, Lib.hid (Only.refl _ _)⟩
  case round =>
    obtain ⟨j, rfl, hj, HP⟩ := hrel
    by_cases hlt : j < n
    · have hlt' : (j : Int) < (n : Int) := by omega
      obtain ⟨x, hx⟩ := HA.out.get hlt
      obtain ⟨y, hy⟩ := HB.out.get hlt
      obtain ⟨b, off, ha, hb, hc⟩ := (HA.out.still HP.out).at anc_len (by omega)
      obtain ⟨b', off', ha', hb', hc'⟩ := (HB.out.still HP.out).at anc_len (by omega)
      obtain ⟨e1, e2, e3⟩ := HS.out j x y hx hy
      have i1 := HI.out x (List.mem_of_getElem? hx)
      have i2 := HI'.out y (List.mem_of_getElem? hy)
      have hnn : x.n = y.n := by rw [← i1.2, ← i2.2, e1]
      unfold AnIn at i1 i2
      rw [← e1, ← hnn] at i2
      have c0 : wr.cell? ⟨b, off + j * 3, none⟩ = some (.slice x.a x.n x.cap) := hc j x hx 0 _ rfl
      have c1 : wr.cell? ⟨b, off + j * 3 + 1, none⟩ = some (.int .u64 (x.num : Int)) := hc j x hx 1 _ rfl
      have c2 : wr.cell? ⟨b, off + j * 3 + 2, none⟩ = some (.bool x.yes) := hc j x hx 2 _ rfl
      have d0 : wr.cell? ⟨b', off' + j * 3, none⟩ = some (.slice y.a x.n y.cap) := by rw [hnn]; exact hc' j y hy 0 _ rfl
      have d1 : wr.cell? ⟨b', off' + j * 3 + 1, none⟩ = some (.int .u64 (x.num : Int)) := by rw [e2]; exact hc' j y hy 1 _ rfl
      have d2 : wr.cell? ⟨b', off' + j * 3 + 2, none⟩ = some (.bool x.yes) := by rw [e3]; exact hc' j y hy 2 _ rfl
      have HSI : Hid (∀ wx, Same w wx → Calls Tryd.prog 11 #[.slice x.a x.n x.cap, .slice y.a x.n y.cap] wx (SayP (.bool true) wx)) := Lib.hid (fun wx hx => sameItems wx x.a y.a x.n x.cap y.cap x.L (i1.still hx) (i2.still hx))
      subst ha ha'
      have HK : Hid (∀ wx, Same wr wx → (wx.cell? ⟨b, off + j * 3, none⟩ = some (.slice x.a x.n x.cap) ∧ wx.cell? ⟨b, off + j * 3 + 1, none⟩ = some (.int .u64 (x.num : Int)) ∧ wx.cell? ⟨b, off + j * 3 + 2, none⟩ = some (.bool x.yes)) ∧ (wx.cell? ⟨b', off' + j * 3, none⟩ = some (.slice y.a x.n y.cap) ∧ wx.cell? ⟨b', off' + j * 3 + 1, none⟩ = some (.int .u64 (x.num : Int)) ∧ wx.cell? ⟨b', off' + j * 3 + 2, none⟩ = some (.bool x.yes))) := Lib.hid (fun wx hx => ⟨⟨(hx.cell (p := ⟨b, off + j * 3, none⟩) hb id).trans c0, (hx.cell (p := ⟨b, off + j * 3 + 1, none⟩) hb id).trans c1, (hx.cell (p := ⟨b, off + j * 3 + 2, none⟩) hb id).trans c2⟩, ⟨(hx.cell (p := ⟨b', off' + j * 3, none⟩) hb' id).trans d0, (hx.cell (p := ⟨b', off' + j * 3 + 1, none⟩) hb' id).trans d1, (hx.cell (p := ⟨b', off' + j * 3 + 2, none⟩) hb' id).trans d2⟩⟩)
      have HCL : Hid (∀ wx, Same wr wx → Calls Tryd.prog 11 #[.slice x.a x.n x.cap, .slice y.a x.n y.cap] wx fun e w' => e = .returned (.bool true) ∧ Same wr w') := Lib.hid (fun wx hx => (HSI.out wx (HP.out.trans hx)).mono (fun e w' h => ⟨h.1, hx.trans h.2⟩))
      clear hc hc' hx hy e1 e2 e3 i1 i2 hnn HSI HS HI HI'
      go_wp2_with fail
      go_region_held3 (fun wx => (wx.cell? ⟨b, off + j * 3, none⟩ = some (.slice x.a x.n x.cap) ∧ wx.cell? ⟨b, off + j * 3 + 1, none⟩ = some (.int .u64 (x.num : Int)) ∧ wx.cell? ⟨b, off + j * 3 + 2, none⟩ = some (.bool x.yes)) ∧ (wx.cell? ⟨b', off' + j * 3, none⟩ = some (.slice y.a x.n y.cap) ∧ wx.cell? ⟨b', off' + j * 3 + 1, none⟩ = some (.int .u64 (x.num : Int)) ∧ wx.cell? ⟨b', off' + j * 3 + 2, none⟩ = some (.bool x.yes)))
        (first | exact HK.out _ (by repeat (first | assumption | exact Only.refl _ _ | apply Only.drew | apply Only.alloc)) | fail)
        (first
          | ((go_at_call 11; (with_reducible refine (HCL.out _ (by repeat (first | assumption | exact Only.refl _ _ | apply Only.drew | apply Only.alloc))).mono ?_); rintro e wy ⟨rfl, hsy⟩))
          | fail)
      all_goals
        go_wp2_with fail
        exact ⟨⟨j + 1, by go_num, by omega, Lib.hid (HP.out.trans (by repeat (first | assumption | exact Only.refl _ _ | apply Only.drew | apply Only.alloc)))⟩, by simp [intOf]; omega⟩
    · have hlt' : ¬ (j : Int) < (n : Int) := by omega
      obtain rfl : j = n := by omega
      go_wp2_with fail
      go_ret
      exact ⟨rfl, HP.out⟩
end Go.Proofs.YtkplikpncpcjdaaDoor.xf

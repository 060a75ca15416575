/-
  FnFIHints: the walk. The hint makes no difference but to the capacity.
-/
import Derived.Test.YtpccodjmjgfloaaFiRun
import Derived.Test.YtpccodjmjgfloaaFiSteps
import Derived.Test.YtpccodjmjgfloaaFiRead
namespace Go.Proofs.Ytpccodjmjgfloaa.walkFnFIHints
open Go.ChangeShapes Go.WideShapes Go.ChangeAt Go.RowKit Go.Proofs.Ytpccodjmjgfloaa.base Go.Proofs.Ytpccodjmjgfloaa.heap Go.Proofs.Ytpccodjmjgfloaa.rows Go.Proofs.Ytpccodjmjgfloaa.fi
set_option linter.unusedVariables false

set_option maxRecDepth 100000 in
set_option maxHeartbeats 6400000 in
theorem main (x y : Int) (hx : 0 ≤ x ∧ x < 65536) (hy : 0 ≤ y ∧ y < 65536) (a : Option Addr) (n cap : Nat) (l : List Stp) (w : World) (h : RP w a n cap l) (hs : ∀ s ∈ l, -9223372036854775808 ≤ s.op ∧ s.op ≤ 9223372036854775807 ∧ s.k < B64 ∧ s.v < B64) :
    Calls Try.prog 4 #[.int .u16 x, .int .u16 y, .slice a n cap] w fun e w' => e = .returned (.bool true) ∧ Below w.heap.size w w' := by
  have hbd := h.1.bound
  have HST := Lib.hid (steps a n cap l w h hs)
  clear h hs
  go_enter Try.func4, Try.ntmps4
  by_cases hbig : (2147483647 : Int) < (n : Int)
  · go_wp2_with fail
    go_ret
    exact ⟨rfl, Only.below (Only.refl (fun _ => False) w) (Nat.le_refl _) (fun _ _ => id)⟩
  go_wp2_with fail
  refine HST.out.mono ?_
  rintro e w1 ⟨oa, m, oc, R, rfl, HX⟩
  have hbo := HX.out.1.1.bound
  obtain ⟨p, hp⟩ : ∃ p : Nat, (p : Int) = x % 601 := ⟨(x % 601).toNat, by omega⟩
  obtain ⟨q, hq⟩ : ∃ q : Nat, (q : Int) = y % 601 := ⟨(y % 601).toNat, by omega⟩
  have hp6 : p < 601 := by omega
  have hq6 : q < 601 := by omega
  have hpt : x.tmod 601 = (p : Int) := by rw [Int.tmod_eq_emod_of_nonneg hx.1]; exact hp.symm
  have hqt : y.tmod 601 = (q : Int) := by rw [Int.tmod_eq_emod_of_nonneg hy.1]; exact hq.symm
  have HRUN : Hid (∀ (h : Nat) wx, h < 601 → Same w1 wx → Calls Try.prog 12 #[.int .u64 (h : Int), .slice oa m oc] wx (FRun R m wx)) := Lib.hid (fun h wx hh hw => fiRun h hh oa m oc R wx (HX.out.1.keep hw (fun _ _ => id)) HX.out.2.1 HX.out.2.2.1)
  clear HST
  go_wp2_with fail
  rw [← hp]
  refine (HRUN.out p w1 hp6 (Only.refl _ _)).mono ?_
  rintro e w2 ⟨a1, c1, A, rfl, hA, hsA, hO2⟩
  have HA : Hid (RN w2 a1 m c1 A) := Lib.hid hA
  have HSA := Lib.hid hsA
  have HO2 := Lib.hid hO2
  have hb1 := hA.1.bound
  clear hA hsA hO2
  go_wp2_with fail
  rw [← hq]
  refine (HRUN.out q w2 hq6 HO2.out).mono ?_
  rintro e w3 ⟨a2, c2, B, rfl, hB, hsB, hO3⟩
  have HB : Hid (RN w3 a2 m c2 B) := Lib.hid hB
  have HSB := Lib.hid hsB
  have HO3 : Hid (Same w1 w3) := Lib.hid (Same.trans HO2.out hO3)
  have HA3 : Hid (RN w3 a1 m c1 A) := Lib.hid (HA.out.keep hO3 (fun _ _ => id))
  have HR3 : Hid (RP w3 oa m oc R) := Lib.hid (HX.out.1.keep HO3.out (fun _ _ => id))
  have HWX : Hid (Same w w3) := Lib.hid (Same.trans HX.out.2.2.2 HO3.out)
  have hb2 := hB.1.bound
  have hm2 := HX.out.2.1
  clear hB hsB hO3 HRUN HA HO2 HO3 hp hq hpt hqt
  have HFINE := Lib.hid HX.out.2.2.1
  clear HX
  go_wp2_with fail
  go_loopw [10] (fun x wr => ∃ k : Nat, k ≤ m ∧ x = .int .i64 (k : Int) ∧ Hid (Same w3 wr)) (fun x _ => m - (intOf x).toNat)
  case atStart => exact ⟨0, Nat.zero_le _, rfl, Lib.hid (Only.refl _ _)⟩
  case round =>
    obtain ⟨k, hk, rfl, HS⟩ := hrel
    by_cases hlt : k < m
    · have hlt' : (k : Int) < (m : Int) := by omega
      obtain ⟨t, ht⟩ : ∃ t, R[k]? = some t := ⟨R[k]'(by rw [HR3.out.2]; omega), List.getElem?_eq_getElem _⟩
      obtain ⟨u, hu⟩ : ∃ u, A[k]? = some u := ⟨A[k]'(by rw [HA3.out.2]; omega), List.getElem?_eq_getElem _⟩
      obtain ⟨v, hv⟩ : ∃ v, B[k]? = some v := ⟨B[k]'(by rw [HB.out.2]; omega), List.getElem?_eq_getElem _⟩
      obtain ⟨lb, lo, rfl, _, hlc⟩ := (HR3.out.keep HS.out (fun _ _ => id)).at (by omega)
      obtain ⟨ab, ao, rfl, _, hac⟩ := (HA3.out.keep HS.out (fun _ _ => id)).at (by omega)
      obtain ⟨bb, bo, rfl, _, hbc⟩ := (HB.out.keep HS.out (fun _ _ => id)).at (by omega)
      obtain ⟨l0, _, _⟩ := hlc k t ht
      obtain ⟨u0, u1⟩ := hac k u hu
      obtain ⟨v0, v1⟩ := hbc k v hv
      have HUV : Hid (t.op ≠ 6 → u = v) := Lib.hid (fun h6 => (HSA.out k u t hu ht h6).trans (HSB.out k v t hv ht h6).symm)
      clear hlc hac hbc ht hu hv
      have HS1 : Hid (Same w3 wr.drew) := Lib.hid HS.out.drew
      by_cases h6 : t.op = 6
      · rw [h6] at l0
        go_wp2_with fail
        go_region
        all_goals go_wp2_with fail
        all_goals exact ⟨⟨k + 1, by omega, by go_num, HS1⟩, by simp [intOf]; omega⟩
      · have huv := HUV.out h6
        subst huv
        have h6' : (t.op != 6) = true := by simpa using h6
        go_wp2_with fail
        go_region
        all_goals go_wp2_with fail
        all_goals exact ⟨⟨k + 1, by omega, by go_num, HS1⟩, by simp [intOf]; omega⟩
    · obtain rfl : k = m := by omega
      go_wp2_with fail
      go_ret
      exact ⟨rfl, Only.below (Same.trans HWX.out HS.out) (Nat.le_refl _) (fun _ _ => id)⟩

theorem walk (W : World) (v0 v1 v2 : Value) (r0 : Reads Try.prog W 36 v0) (r1 : Reads Try.prog W 36 v1) (r2 : Reads Try.prog W 37 v2) :
    Calls Try.prog 4 #[v0, v1, v2] W fun e w' => e = .returned (.bool true) ∧ Below W.heap.size W w' := by
  obtain ⟨x, rfl, hx⟩ := r0.int Try.underlying36
  obtain ⟨y, rfl, hy⟩ := r1.int Try.underlying36
  obtain ⟨a, n, cap, l, rfl, h, hs⟩ := read_steps r2
  exact main x y (wf_u16 hx) (wf_u16 hy) a n cap l W h hs
end Go.Proofs.Ytpccodjmjgfloaa.walkFnFIHints

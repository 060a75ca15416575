/-
  FnISSorts: the walk. Sort puts a list in order.
-/
import Derived.Test.YtfkggjjnhjappaaIsSort
import Derived.Deep.RegionHeld3
namespace Go.Proofs.Ytfkggjjnhjappaa.walkFnISSorts
open Go.RowKit Go.Proofs.Ytfkggjjnhjappaa.base Go.Proofs.Ytfkggjjnhjappaa.heap Go.Proofs.Ytfkggjjnhjappaa.isl Go.Proofs.Ytfkggjjnhjappaa.srt
set_option linter.unusedVariables false

theorem cut {w w' w'' : World} (h : Only (fun _ => False) w w') (h' : Only (fun _ => False) w' w'') : Only (fun _ => False) w w'' := h.trans h' (fun _ _ f => f)

set_option maxRecDepth 100000 in
set_option maxHeartbeats 1600000 in
theorem main (a : Option Addr) (n cap : Nat) (l : List Int) (w : World) (h : Rd 1 w a n cap (I l)) (h60 : n ≤ 60) :
    Calls Try.prog 4 #[.slice a n cap] w fun e w' => e = .returned (.bool true) ∧ Below w.heap.size w w' := by
  have hl : l.length = n := by simpa [I] using h.len
  have H := Lib.hid h
  have HL := Lib.hid hl
  clear h hl
  have h60' : ¬ (60 : Int) < (n : Int) := by omega
  go_enter Try.func4, Try.ntmps4
  go_wp2_with fail
  refine (isSort_any a n cap l _ H.out (by omega)).mono ?_
  rintro e w1 ⟨a1, cap1, rfl, ho, hO⟩
  have HOW := Lib.hid ho
  have HO := Lib.hid hO
  clear ho hO
  go_wp2_with fail
  refine (isSorted a n cap l _ (H.out.keep HO.out (fun _ _ => id)) (by omega)).mono ?_
  rintro e w2 ⟨b2, rfl, ho2, hO2⟩
  rw [HL.out] at ho2
  rw [HL.out]
  have HOW2 := Lib.hid ho2
  have HEQ := Lib.hid (equal_yes a1 _ n n cap1 n (isort l) w2 (HOW.out.keep hO2 (fun _ _ => id)).rd ho2.rd (by omega))
  have HO2 := Lib.hid (cut HO.out hO2)
  clear ho2 hO2
  go_wp2_with fail
  refine HEQ.out.mono ?_
  rintro e w3 ⟨rfl, m, rfl⟩
  go_wp2_with fail
  go_ret
  exact ⟨rfl, (HO2.out.drewN _).below (Nat.le_refl _) (fun _ _ => id)⟩

theorem walk (W : World) (v0 : Value) (r0 : Reads Try.prog W 22 v0) :
    Calls Try.prog 4 #[v0] W fun e w' => e = .returned (.bool true) ∧ Below W.heap.size W w' := by
  obtain ⟨a0, len0, cap0, z0, rfl, w0⟩ := r0.ints Try.underlying22 Try.underlying2 (by kernel_rfl)
  have hrd := IsRow.rd w0
  have hle := w0.le
  by_cases h1 : 2147483647 < len0
  · clear hrd w0 r0
    go_enter Try.func4, Try.ntmps4
    go_wp2_with fail
    go_ret
    exact ⟨rfl, Below.refl _ _⟩
  · by_cases h3 : 60 < len0
    · clear hrd w0 r0
      go_enter Try.func4, Try.ntmps4
      go_wp2_with fail
      go_ret
      exact ⟨rfl, Below.refl _ _⟩
    · exact main a0 len0 cap0 _ W hrd (by omega)
end Go.Proofs.Ytfkggjjnhjappaa.walkFnISSorts

/-
  FnGRRuns: the walk. An edge is added unless it would be a loop, or there is one between its vertices.
-/
import Derived.Test.YtpccodjmjgfloaaDoorGrRun
namespace Go.Proofs.YtpccodjmjgfloaaDoor.walkFnGRRuns
open Go.RowKit Go.Proofs.YtpccodjmjgfloaaDoor.base Go.Proofs.YtpccodjmjgfloaaDoor.heap Go.Proofs.YtpccodjmjgfloaaDoor.rows Go.Proofs.YtpccodjmjgfloaaDoor.gr
set_option linter.unusedVariables false

set_option maxRecDepth 100000 in
set_option maxHeartbeats 1600000 in
theorem main (a : Option Addr) (n cap : Nat) (l : List Ed) (a0 a1 a2 : Addr) (w : World) (h : RE w a n cap l) (hE : Errs w a0 a1 a2) (hEf : ∀ k, errFoot a0 a1 a2 k → k < w.heap.size) :
    Calls Tryd.prog 3 #[.slice a n cap] w fun e w' => e = .returned (.bool true) ∧ Below w.heap.size w w' := by
  have hbd := h.1.bound
  by_cases hn1 : n ≤ 2147483647
  · have hn1' : ¬ (2147483647 : Int) < (n : Int) := by omega
    by_cases hn : n ≤ 60
    · have hn' : ¬ (60 : Int) < (n : Int) := by omega
      have HRUN := Lib.hid (grRun a n cap l a0 a1 a2 w h (by omega) hE hEf)
      have HR := Lib.hid h
      have HAL := Lib.hid (alike l)
      clear h hE hEf
      go_enter Tryd.func3, Tryd.ntmps3
      go_wp2_with fail
      refine HRUN.out.mono ?_
      rintro e w1 ⟨ea, ec, rfl, hes, hS1⟩
      have HO1 := Lib.hid hS1
      have HES := Lib.hid hes
      have HOF := Lib.hid (grOfS a n cap l w1 (HR.out.still hS1) (by omega))
      clear hS1 hes HRUN
      have HLV : Hid ((tOf l).S.length = (qOf l).V.length) := Lib.hid (by rw [← HAL.out.fst, List.length_map])
      have HLE : Hid ((tOf l).e = (qOf l).E.length) := Lib.hid HAL.out.e
      rw [HLV.out, HLE.out]
      go_wp2_with fail
      refine HOF.out.mono ?_
      rintro e w2 ⟨va, vc, ea2, ec2, sa, sc, rfl, hb1, hb2, hes2, hS2⟩
      have HO2 := Lib.hid (HO1.out.trans hS2)
      have HEQ : Hid (∀ wx, Same w2 wx → Calls Tryd.prog 7 #[.slice ea n ec, .slice sa n sc] wx (FV wx (.bool true))) := Lib.hid (fun wx hx => equalS ea n ec sa sc (qOf l).es wx (by rw [← HAL.out.es]; exact (HES.out.still hS2).rl.still hx) (hes2.still hx))
      clear hes2 hS2 HOF HES
      generalize (qOf l).V.length = z1 at *
      generalize (qOf l).E.length = z2 at *
      clear HLV HLE
      go_wp2_with fail
      obtain ⟨W3, hW3⟩ : ∃ W3, W3 = w2.alloc (.cells #[.slice va z1 vc, .slice ea2 z2 ec2] 27) := ⟨_, rfl⟩
      obtain ⟨g, hg⟩ : ∃ g, g = w2.heap.size := ⟨_, rfl⟩
      have HS23 : Hid (Same w2 W3) := Lib.hid (by rw [hW3]; exact (Only.refl _ _).alloc _)
      have HB : Hid (W3.heap[g]? = some (.cells #[.slice va z1 vc, .slice ea2 z2 ec2] 27 (0, 0))) := Lib.hid (by rw [hW3, hg]; exact heap_alloc_new _ _)
      rw [← hW3, ← hg]
      clear hW3 hg
      refine (HEQ.out W3 HS23.out).mono ?_
      rintro e w4 ⟨rfl, hS4⟩
      have c0 : w4.cell? ⟨g, 0, none⟩ = some (.slice va z1 vc) := block_cell (heap_still hS4 HB.out) rfl
      have c1 : w4.cell? ⟨g, 1, none⟩ = some (.slice ea2 z2 ec2) := block_cell (heap_still hS4 HB.out) rfl
      have HO4 : Hid (Same w w4) := Lib.hid (HO2.out.trans (HS23.out.trans hS4))
      clear hS4 HEQ
      go_wp2_with fail
      go_ret
      exact ⟨rfl, Only.below HO4.out (Nat.le_refl _) (fun _ _ => id)⟩
    · have hn' : (60 : Int) < (n : Int) := by omega
      clear h hE hEf
      go_enter Tryd.func3, Tryd.ntmps3
      go_wp2_with fail
      go_ret
      exact ⟨rfl, Below.refl _ _⟩
  · have hn1' : (2147483647 : Int) < (n : Int) := by omega
    clear h hE hEf
    go_enter Tryd.func3, Tryd.ntmps3
    go_wp2_with fail
    go_ret
    exact ⟨rfl, Below.refl _ _⟩

theorem walk (W : World) (v0 : Value) (r0 : Reads Tryd.prog W 22 v0) (a0 a1 a2 : Addr) (hE : Errs W a0 a1 a2) (hEf : ∀ k, errFoot a0 a1 a2 k → k < W.heap.size) :
    Calls Tryd.prog 3 #[v0] W fun e w' => e = .returned (.bool true) ∧ Below W.heap.size W w' := by
  obtain ⟨a, n, cap, l, rfl, h⟩ := read_edges r0
  exact main a n cap l a0 a1 a2 W h hE hEf
end Go.Proofs.YtpccodjmjgfloaaDoor.walkFnGRRuns

/-
  FnBAOrSparse: the walk. What two sparse arrays make by Or has the bits of both.
-/
import Derived.Test.YtacjkbljokjdkaaGreatZBaOrSM
namespace Go.Proofs.YtacjkbljokjdkaaGreat.walkFnBAOrSparse
open Go.RowKit Go.Proofs.YtacjkbljokjdkaaGreat.base Go.Proofs.YtacjkbljokjdkaaGreat.heap Go.Proofs.YtacjkbljokjdkaaGreat.rows Go.Proofs.YtacjkbljokjdkaaGreat.bit Go.Proofs.YtacjkbljokjdkaaGreat.bs Go.Proofs.YtacjkbljokjdkaaGreat.ba
set_option linter.unusedVariables false
set_option maxRecDepth 100000 in
set_option maxHeartbeats 1600000 in
theorem main (a b : Option Addr) (n ca m cb : Nat) (l1 l2 : List Nat) (w : World) (h1 : RL uv w a n ca l1) (h2 : RL uv w b m cb l2) :
    Calls Tryz.prog 8 #[.slice a n ca, .slice b m cb] w (FV w (.bool true)) := by
  have hb1 := h1.bound
  have hb2 := h2.bound
  have HT : Hid (∀ wx, Same w wx → Calls Tryz.prog 9 #[.int .i64 11, .bool false, .bool false, .agg #[.int .u16 0, .int .u16 0], .slice a n ca, .slice b m cb, .func (Fn.func 19) #[] #[], .func (Fn.func 18) #[] #[]] wx (FV wx (.bool true))) := Lib.hid (fun wx hS => by
    have hA := madeS_len false 0 (l1.take 40)
    have hA2 : (l1.take 40).length ≤ 40 := by rw [List.length_take]; omega
    have hB2 : (l2.take 40).length ≤ 40 := by rw [List.length_take]; omega
    have hB := madeS_len false 0 (l2.take 40)
    have hC := orL_len (madeS false 0 (l2.take 40)) (madeS false 0 (l1.take 40))
    exact baTwoG 11 false false 0 0 a b n ca m cb l1 l2 _ _ 19 18 0 0 0 0 (orL (madeS false 0 (l1.take 40)) (madeS false 0 (l2.take 40))) true wx (fun _ _ => rfl) (fun _ _ => rfl)
      (h1.still hS) (h2.still hS) rfl rfl (madeCS (by omega)) (madeCS (by omega)) (fitsAny _ _ _ _ _ _) (makesOr (madeS_asc _ _ _) (by omega)) (by omega)
      (fun hf => runs_made (z := ⟨false, 0, orL (madeS false 0 (l1.take 40)) (madeS false 0 (l2.take 40))⟩) (.inr ⟨rfl, rfl, rfl⟩) (.inr ⟨rfl, rfl, rfl⟩) hA2 hB2 (fun _ => ⟨by show (orL _ _).length ≤ _; omega, fun k hk => by
          rcases ((orL_spec _ (madeS_asc false 0 _)).2 k).1 hk with h | h
          · exact madeS_lt60 false 0 _ k h
          · exact madeS_lt60 false 0 _ k h⟩)
        (does_orS (s := [⟨false, 0, madeS false 0 (l1.take 40)⟩, ⟨false, 0, madeS false 0 (l2.take 40)⟩]) (i := 0) (j := 1) rfl rfl rfl rfl (by show (madeS _ _ _).length + (madeS _ _ _).length ≤ _; omega))))
  clear h1 h2
  by_cases hn : (2147483647 : Int) < (n : Int)
  · go_enter Tryz.func8, Tryz.ntmps8
    go_wp2_with fail
    go_ret
    exact ⟨rfl, Only.refl _ _⟩
  by_cases hm : (2147483647 : Int) < (m : Int)
  · go_enter Tryz.func8, Tryz.ntmps8
    go_wp2_with fail
    go_ret
    exact ⟨rfl, Only.refl _ _⟩
  go_enter Tryz.func8, Tryz.ntmps8
  go_wp2_with (go_at_call 9; refine (HT.out _ (Only.refl _ _)).mono ?_)
  rintro e w1 ⟨rfl, hS1⟩
  have HS1 := Lib.hid hS1
  clear hS1
  go_wp2_with fail
  go_ret
  exact ⟨rfl, HS1.out⟩
theorem walk (W : World) (v0 v1 : Value) (r0 : Reads Tryz.prog W 24 v0) (r1 : Reads Tryz.prog W 24 v1) :
    Calls Tryz.prog 8 #[v0, v1] W fun e w' => e = .returned (.bool true) ∧ Below W.heap.size W w' := by
  obtain ⟨a, n, ca, l1, rfl, h1, _⟩ := reads_nums r0 Tryz.underlying24 Tryz.underlying34 (by kernel_rfl) (fun n h => (wf_u64 h).1)
  obtain ⟨b, m, cb, l2, rfl, h2, _⟩ := reads_nums r1 Tryz.underlying24 Tryz.underlying34 (by kernel_rfl) (fun n h => (wf_u64 h).1)
  exact (main a b n ca m cb l1 l2 W h1 h2).mono fun e w' ⟨he, hS⟩ => ⟨he, Only.below hS (Nat.le_refl _) (fun _ _ => id)⟩
end Go.Proofs.YtacjkbljokjdkaaGreat.walkFnBAOrSparse

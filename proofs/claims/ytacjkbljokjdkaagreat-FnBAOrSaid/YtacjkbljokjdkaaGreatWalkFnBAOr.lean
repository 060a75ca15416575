/-
  FnBAOr: the walk. What two dense arrays make by Or has the bits of both.
-/
import Derived.Test.YtacjkbljokjdkaaGreatBaOrM
namespace Go.Proofs.YtacjkbljokjdkaaGreat.walkFnBAOr
open Go.RowKit Go.Proofs.YtacjkbljokjdkaaGreat.base Go.Proofs.YtacjkbljokjdkaaGreat.heap Go.Proofs.YtacjkbljokjdkaaGreat.rows Go.Proofs.YtacjkbljokjdkaaGreat.bit Go.Proofs.YtacjkbljokjdkaaGreat.bs Go.Proofs.YtacjkbljokjdkaaGreat.ba
set_option linter.unusedVariables false
set_option maxRecDepth 100000 in
set_option maxHeartbeats 1600000 in
theorem main (s1 s2 : Nat) (hs1 : s1 < 65536) (hs2 : s2 < 65536) (a b : Option Addr) (n ca m cb : Nat) (l1 l2 : List Nat) (w : World) (h1 : RL uv w a n ca l1) (h2 : RL uv w b m cb l2) :
    Calls Tryz.prog 7 #[.agg #[.int .u16 (s1 : Int), .int .u16 (s2 : Int)], .slice a n ca, .slice b m cb] w (FV w (.bool true)) := by
  have hb1 := h1.bound
  have hb2 := h2.bound
  have HT : Hid (∀ wx, Same w wx → Calls Tryz.prog 9 #[.int .i64 11, .bool true, .bool true, .agg #[.int .u16 (s1 : Int), .int .u16 (s2 : Int)], .slice a n ca, .slice b m cb, .func (Fn.func 19) #[] #[], .func (Fn.func 18) #[] #[]] wx (FV wx (.bool true))) := Lib.hid (fun wx hS => by
    obtain ⟨m1, hm1⟩ : ∃ m1, 1 + s1 % 512 = m1 := ⟨_, rfl⟩
    obtain ⟨m2, hm2⟩ : ∃ m2, 1 + s2 % 512 = m2 := ⟨_, rfl⟩
    obtain ⟨q1, hq1⟩ : ∃ q1, (m1 + 63) / 64 = q1 := ⟨_, rfl⟩
    obtain ⟨q2, hq2⟩ : ∃ q2, (m2 + 63) / 64 = q2 := ⟨_, rfl⟩
    have M1 : MadeC true s1 0 a n ca l1 m1 q1 := by have := madeCD (s := s1) (on := 0) (a := a) (n := n) (c := ca) (l := l1) hs1 (by omega); rw [hm1, hq1] at this; exact this
    have M2 : MadeC true s2 1 b m cb l2 m2 q2 := by have := madeCD (s := s2) (on := 1) (a := b) (n := m) (c := cb) (l := l2) hs2 (by omega); rw [hm2, hq2] at this; exact this
    have hA := madeS_len true q1 (l1.take 40)
    have hA2 : (l1.take 40).length ≤ 40 := by rw [List.length_take]; omega
    have hB := madeS_len true q2 (l2.take 40)
    have hB2 : (l2.take 40).length ≤ 40 := by rw [List.length_take]; omega
    have hC := orL_len (madeS true q2 (l2.take 40)) (madeS true q1 (l1.take 40))
    exact baTwoG 11 true true s1 s2 a b n ca m cb l1 l2 _ _ 19 18 m1 q1 m2 q2 (orL (madeS true q1 (l1.take 40)) (madeS true q2 (l2.take 40))) true wx (fun _ _ => rfl) (fun _ _ => rfl)
      (h1.still hS) (h2.still hS) rfl rfl M1 M2 (fitsAny _ _ _ _ _ _) (makesOr (madeS_asc _ _ _) (by omega)) (by omega)
      (fun hf => runs_madeD (z := ⟨true, Go.Proofs.YtacjkbljokjdkaaGreat.ba.orWords (madeS true q1 (l1.take 40)) (madeS true q2 (l2.take 40)) q1 q2, orL (madeS true q1 (l1.take 40)) (madeS true q2 (l2.take 40))⟩) (by omega) hq1 (by omega) (by omega) hq2 (by omega) rfl (does_orD (s := [⟨true, q1, madeS true q1 (l1.take 40)⟩, ⟨true, q2, madeS true q2 (l2.take 40)⟩]) (i := 0) (j := 1) rfl rfl rfl rfl)))
  have HS : Hid (∀ A, Same w (w.alloc A)) := Lib.hid (fun A => (Only.refl _ _).alloc _)
  clear h1 h2
  by_cases hn : (2147483647 : Int) < (n : Int)
  · go_enter Tryz.func7, Tryz.ntmps7
    go_wp2_with fail
    go_ret
    exact ⟨rfl, HS.out _⟩
  by_cases hm : (2147483647 : Int) < (m : Int)
  · go_enter Tryz.func7, Tryz.ntmps7
    go_wp2_with fail
    go_ret
    exact ⟨rfl, HS.out _⟩
  go_enter Tryz.func7, Tryz.ntmps7
  go_wp2_with (go_at_call 9; refine (HT.out _ (HS.out _)).mono ?_)
  rintro e w1 ⟨rfl, hS1⟩
  have HS1 := Lib.hid (Same.trans (HS.out _) hS1)
  clear hS1
  go_wp2_with fail
  go_ret
  exact ⟨rfl, HS1.out⟩
theorem walk (W : World) (v0 v1 v2 : Value) (r0 : Reads Tryz.prog W 23 v0) (r1 : Reads Tryz.prog W 24 v1) (r2 : Reads Tryz.prog W 24 v2) :
    Calls Tryz.prog 7 #[v0, v1, v2] W fun e w' => e = .returned (.bool true) ∧ Below W.heap.size W w' := by
  obtain ⟨s1, s2, rfl, w1, w2⟩ := reads_pair r0 Tryz.underlying23 Tryz.underlying22 (by kernel_rfl) (by kernel_rfl)
  obtain ⟨a, n, ca, l1, rfl, h1, _⟩ := reads_nums r1 Tryz.underlying24 Tryz.underlying34 (by kernel_rfl) (fun n h => (wf_u64 h).1)
  obtain ⟨b, m, cb, l2, rfl, h2, _⟩ := reads_nums r2 Tryz.underlying24 Tryz.underlying34 (by kernel_rfl) (fun n h => (wf_u64 h).1)
  have b1 := wf_u16 w1
  have b2 := wf_u16 w2
  obtain ⟨t1, rfl⟩ : ∃ t : Nat, s1 = (t : Int) := ⟨s1.toNat, by omega⟩
  obtain ⟨t2, rfl⟩ : ∃ t : Nat, s2 = (t : Int) := ⟨s2.toNat, by omega⟩
  exact (main t1 t2 (by omega) (by omega) a b n ca m cb l1 l2 W h1 h2).mono fun e w' ⟨he, hS⟩ => ⟨he, Only.below hS (Nat.le_refl _) (fun _ _ => id)⟩
end Go.Proofs.YtacjkbljokjdkaaGreat.walkFnBAOr

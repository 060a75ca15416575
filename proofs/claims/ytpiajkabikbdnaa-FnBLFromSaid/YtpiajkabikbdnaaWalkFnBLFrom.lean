/-
  FnBLFrom: the walk. A filter that is made from words has their bits: all of them, or the first ones.
-/
import Derived.Test.YtpiajkabikbdnaaBlLaw
namespace Go.Proofs.Ytpiajkabikbdnaa.walkFnBLFrom
open Go.RowKit Go.Proofs.Ytpiajkabikbdnaa.base Go.Proofs.Ytpiajkabikbdnaa.heap Go.Proofs.Ytpiajkabikbdnaa.bit Go.Proofs.Ytpiajkabikbdnaa.bs
set_option linter.unusedVariables false

theorem bitsOf_take (l : List Nat) (n k : Nat) (h : k ≤ n) : (bitsOf l n).take k = bitsOf l k := by
  unfold bitsOf
  rw [← List.map_take, List.take_range, Nat.min_eq_left h]

set_option maxRecDepth 100000 in
set_option maxHeartbeats 1600000 in
theorem main (a : Option Addr) (m cap : Nat) (l : List Nat) (q p : Nat) (w : World) (h : RU w a m cap l) (hok : Ok l) (hm : m ≤ 2147483647) (hq : q < 256) (hp : p < 65536) :
    Calls Try.prog 4 #[.slice a m cap, .int .u8 (q : Int), .int .u16 (p : Int)] w fun e w' => e = .returned (.bool true) ∧ Below w.heap.size w w' := by
  have HW := Lib.hid (blWords a m cap l w h hok hm)
  have hbd := h.1.bound
  obtain ⟨K, hK⟩ : ∃ K : Nat, 1 + q % 8 = K := ⟨_, rfl⟩
  have HK : Hid (1 + (q : Int) % 8 = (K : Int)) := Lib.hid (by omega)
  have hK1 : K ≤ 8 := by omega
  clear h hok hK
  go_enter Try.func4, Try.ntmps4
  go_wp2_with fail
  refine HW.out.mono ?_
  rintro e w1 ⟨a1, n, cap1, l1, rfl, hu, hok1, h0, hn, hO1⟩
  have HO1 := Lib.hid hO1
  have HU : Hid (∀ wx, Same w1 wx → RU wx a1 n cap1 l1) := Lib.hid (fun wx hx => hu.keep hx (fun _ _ => id))
  have HOK := Lib.hid hok1
  obtain ⟨M, hM⟩ : ∃ M : Nat, 64 * n = M := ⟨_, rfl⟩
  have HM : Hid (64 * (n : Int) = (M : Int)) := Lib.hid (by omega)
  obtain ⟨N, hN⟩ : ∃ N : Nat, 1 + p % M = N := ⟨_, rfl⟩
  have hN1 : N ≤ M := by have := Nat.mod_lt p (show 0 < M by omega); omega
  have hN0 : 0 < N := by omega
  have hM0 : 0 < M := by omega
  have HN : Hid (1 + (p : Int) % (M : Int) = (N : Int)) := Lib.hid (by rw [← hN]; push_cast; rfl)
  have HB : Hid (∀ wx, Same w1 wx → Calls Try.prog 12 #[.agg #[.int .u64 (M : Int), .int .u64 0, .slice a1 n cap1]] wx (FBools wx (bitsOf l1 M))) := Lib.hid (fun wx hx => fbools (Only.refl _ _) (blBits M 0 a1 n cap1 l1 wx (hu.keep hx (fun _ _ => id)) hok1 (by omega) (by omega)))
  have HF1 : Hid (∀ w0 wx, Same w1 w0 → Same w0 wx → Calls Try.prog 15 #[.slice a1 n cap1, .int .u64 (K : Int)] wx (FFilt w0 M K n l1)) := Lib.hid (fun w0 wx h1 h2 => by
    have := ffilt h2 (implBLFrom K a1 n cap1 l1 wx (hu.keep (Same.trans h1 h2) (fun _ _ => id)) hok1 h0 (by omega))
    rwa [show n * 64 = M by omega] at this)
  have HF2 : Hid (∀ w0 wx, Same w1 w0 → Same w0 wx → Calls Try.prog 16 #[.slice a1 n cap1, .int .u64 (N : Int), .int .u64 (K : Int)] wx (FFilt w0 N K n l1)) := Lib.hid (fun w0 wx h1 h2 =>
    ffilt h2 (implBLFromWithM N K a1 n cap1 l1 wx (hu.keep (Same.trans h1 h2) (fun _ _ => id)) hok1 h0 (by omega)))
  have HS : Hid (∀ w0 wx a3 c3 a' c' X, X ≤ M → Same w0 wx → RU wx a3 n c3 l1 → RB wx a' X c' (bitsOf l1 X) → Calls Try.prog 14 #[.agg #[.int .u64 (X : Int), .int .u64 (K : Int), .slice a3 n c3], .int .u64 (K : Int), .slice a' X c'] wx (FV w0 (.bool true))) := Lib.hid (fun w0 wx a3 c3 a' c' X hX h2 h3 h4 => by
    have := blSame_b (bitsOf l1 X) K a3 n c3 l1 a' c' wx h3 hok1 (by rw [bitsOf_len]; omega) (by omega) (by rw [bitsOf_len]; exact h4)
    rw [bitsOf_len, decide_eq_true rfl] at this
    exact fv h2 this)
  have HSa := Lib.hid (fun w0 wx a3 c3 a' c' => HS.out w0 wx a3 c3 a' c' M (Nat.le_refl _))
  have HSb := Lib.hid (fun w0 wx a3 c3 a' c' => HS.out w0 wx a3 c3 a' c' N hN1)
  clear HS
  have HLM : Hid ((bitsOf l1 M).length = M) := Lib.hid (bitsOf_len _ _)
  have HTK : Hid ((bitsOf l1 M).take N = bitsOf l1 N) := Lib.hid (bitsOf_take _ _ _ hN1)
  have hM2 : M ≤ 768 := by omega
  have HWR : Hid (IntKind.u64.wrap (N : Int) = (N : Int)) := Lib.hid (wrap_nat N (by omega))
  clear hu hok1 hO1 hN hM
  generalize bitsOf l1 M = d at *
  generalize bitsOf l1 N = d' at *
  go_wp2_with fail
  rw [HM.out, HK.out]
  refine (HB.out _ (Only.refl _ _)).mono ?_
  rintro e w2 ⟨a2, cap2, rfl, hb2, hO2⟩
  rw [HLM.out] at hb2 ⊢
  have hbd2 := hb2.1.bound
  have HB2 : Hid (∀ wx, Same w2 wx → RB wx a2 M cap2 d ∧ RB wx a2 N cap2 d') := Lib.hid (fun wx hx => by
    have h1 := hb2.keep hx (fun _ _ => id)
    refine ⟨h1, ?_⟩
    have := h1.first N hN1
    rwa [HTK.out] at this)
  have HO2 := Lib.hid hO2
  clear hb2 hO2
  have hNc : (N : Int) ≤ (cap2 : Int) := by omega
  have hNc' : N ≤ cap2 := by omega
  have hN00 : (0 : Int) ≤ (N : Int) := by omega
  go_wp2_with fail
  rw [HN.out, show wrap64 (N : Int) = (N : Int) from by unfold wrap64; omega]
  go_region_held3 (fun _ => True) (exact trivial)
    (first | ((go_at_call 15; (with_reducible refine (HF1.out w2 _ HO2.out (by exact (Only.refl _ w2).drew)).mono ?_); rintro e w3 ⟨a3, c3, rfl, hu3, hO3, hf3⟩)) | ((go_at_call 14; (with_reducible refine (HSa.out w3 _ a3 c3 a2 cap2 (Only.refl _ _) hu3 (HB2.out _ hO3).1).mono ?_); rintro e w4 ⟨rfl, hO4⟩)) | ((go_at_call 16; (try rw [HWR.out]); (with_reducible refine (HF2.out w4 _ (Same.trans HO2.out (Same.trans hO3 hO4)) (Only.refl _ _)).mono ?_); rintro e w5 ⟨a5, c5, rfl, hu5, hO5, hf5⟩)) | ((go_at_call 14; (with_reducible refine (HSb.out w5 _ a5 c5 a2 cap2 (Only.refl _ _) hu5 (HB2.out _ (Same.trans hO3 (Same.trans hO4 hO5))).2).mono ?_); rintro e w6 ⟨rfl, hO6⟩)))
  all_goals
    go_wp2
    go_ret
    exact ⟨by simp, Only.below (Same.trans HO1.out (Same.trans HO2.out (Same.trans hO3 (Same.trans hO4 (Same.trans hO5 hO6))))) (Nat.le_refl _) (fun _ _ => id)⟩

theorem walk (W : World) (v0 v1 v2 : Value) (r0 : Reads Try.prog W 23 v0) (r1 : Reads Try.prog W 5 v1) (r2 : Reads Try.prog W 22 v2) :
    Calls Try.prog 4 #[v0, v1, v2] W fun e w' => e = .returned (.bool true) ∧ Below W.heap.size W w' := by
  obtain ⟨p, rfl, hp⟩ := r2.int Try.underlying22
  have hp' := wf_u16 hp
  obtain ⟨P, rfl⟩ := Int.eq_ofNat_of_zero_le hp'.1
  obtain ⟨q, rfl, hq⟩ := r1.int Try.underlying5
  have hq' := wf_u8 hq
  obtain ⟨Q, rfl⟩ := Int.eq_ofNat_of_zero_le hq'.1
  obtain ⟨a, n, cap, zs, rfl, hr⟩ := r0.ints Try.underlying23 Try.underlying59 (by kernel_rfl)
  by_cases hm : n ≤ 2147483647
  · obtain ⟨l, hl, hok⟩ := row_words hr
    exact main a n cap l Q P W hl hok hm (by omega) (by omega)
  · have hle := hr.le
    clear r0 r1 r2 hr hp hp' hq hq'
    have hgt : (2147483647 : Int) < (n : Int) := by omega
    clear hm
    go_enter Try.func4, Try.ntmps4
    go_wp2_with fail
    go_ret
    exact ⟨rfl, Only.below (Only.refl (fun _ => False) W) (Nat.le_refl _) (fun _ _ => id)⟩
end Go.Proofs.Ytpiajkabikbdnaa.walkFnBLFrom

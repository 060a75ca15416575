/-
  The specification's BSDelete.
-/
import Derived.Test.YtgndpckcdageiaaBsInsI
namespace Go.Proofs.Ytgndpckcdageiaa.bs
open Go.RowKit Go.Proofs.Ytgndpckcdageiaa.base Go.Proofs.Ytgndpckcdageiaa.heap Go.Proofs.Ytgndpckcdageiaa.bit
set_option linter.unusedVariables false
theorem src_bools {w : World} {b off n cap : Nat} {l : List Bool} (h : RB w (some ⟨b, off, none⟩) n cap l) (k : Nat) (hk : k ≤ n) (hlt : ¬ cap = k) : Src Try.prog 1 29 (.slice (some ⟨b, off + k, none⟩) (n - k) (cap - k)) (n - k) (B (l.drop k)) w := by
  rcases Nat.lt_or_ge k n with h1 | h1
  · exact Rd.src (RB.rest h k h1) Try.underlying29
  · have e : n - k = 0 := by omega
    have e2 : l.drop k = [] := List.drop_eq_nil_of_le (by rw [h.2]; omega)
    rw [e, e2]
    exact Src.ofSlice _ Try.underlying29 _ 0 _ [] (by simp) (by simp) (by simp)
set_option maxRecDepth 100000 in
set_option maxHeartbeats 1600000 in
theorem bsDelete (a0 : Option Addr) (cap0 : Nat) (b : List Bool) (i : Nat) (w : World) (hrb : RB w a0 b.length cap0 b) (hn : b.length ≤ 1048000) (hi : i < b.length) :
    Calls Try.prog 14 #[.slice a0 b.length cap0, .int .i64 (i : Int)] w (RetBools (deleteL b i) w) := by
  obtain ⟨x, off, rfl, hx, -⟩ := hrb.at (by omega)
  have hc := hrb.1.le
  have HNN : Hid (deleteL b i = deleteL b i → (deleteL b i).length = b.length - 1) := Lib.hid (fun _ => deleteL_len b i hi)
  obtain ⟨i1, HI1⟩ : ∃ i1, Hid (i + 1 = i1) := ⟨_, Lib.hid rfl⟩
  obtain ⟨n, hnn⟩ : ∃ n, b.length = n := ⟨_, rfl⟩
  rw [hnn] at hrb hc hn hi ⊢
  have hnc : ¬ cap0 = i := by omega
  have hic : i ≤ cap0 := by omega
  have hi' : (i : Int) ≤ (n : Int) := by omega
  have hil : i ≤ n := by omega
  have hi1n : i1 ≤ n := by have := HI1.out; omega
  have hi1 : (i1 : Int) ≤ (n : Int) := by omega
  have hi1w : IntKind.i64.wrap ((i : Int) + 1) = (i1 : Int) := by have := HI1.out; rw [IntWalk.i64_in _ (by omega)]; omega
  have hi10 : (0 : Int) ≤ (i1 : Int) := by omega
  have HXS : Hid (B (b.take i) ++ B (b.drop i1) = B (deleteL b i)) := Lib.hid (by rw [← HI1.out]; unfold deleteL; simp [B])
  have HRB := Lib.hid hrb
  have HFIN : Hid (∀ w1 a1 c1 w3 a3 c3, Only (fun _ => False) w w1 → (∀ j, At a1 j → w.heap.size ≤ j) → ∀ tl, n - i1 = tl → Grew 4 1 w1 w3 a1 a3 tl (i + tl) c1 c3 (B (deleteL b i)) → RetBools (deleteL b i) w (.returned (.slice a3 (i + tl) c3)) w3) := Lib.hid (fun w1 a1 c1 w3 a3 c3 h1 h2 tl htl hG => by
    have hl : (deleteL b i).length = i + tl := by have := HNN.out rfl; have := HI1.out; omega
    refine ⟨a3, c3, by rw [hl], ⟨by rw [hl]; exact hG.own.rd, rfl⟩, h1.trans hG.only (fun j hj h => by have := h2 j h; omega), fun j hj => ?_⟩
    have h0 := h1.size
    rcases hG.fresh j hj with h | h
    · exact h2 j h
    · omega)
  by_cases hcap : cap0 = i1
  · have hbl : n = i1 := by omega
    have HSR : Hid (∀ wx, Only (fun _ => False) w wx → Src Try.prog 1 29 (.slice (some ⟨x, off, none⟩) 0 0) 0 (B (b.drop i1)) wx) := Lib.hid (fun wx _ => by
      have e2 : b.drop i1 = [] := List.drop_eq_nil_of_le (by omega)
      rw [e2]
      exact Src.ofSlice _ Try.underlying29 _ 0 _ [] (by simp) (by simp) (by simp))
    have HTL : Hid (n - i1 = 0) := Lib.hid (by omega)
    clear hrb hnn HNN
    subst hcap
    subst hbl
    go_enter Try.func14, Try.ntmps14
    go_wp2_with (at_builtin; refine wpList_append i (B (b.take i)) rfl _ _ _ _ rfl slBool rfl (own_empty _ (default : World) _ _ (heap_alloc_new' _ _ _ rfl)) rfl (Rd.src (RB.firstI (HRB.out.keep (S := fun _ => False) (by repeat (first | exact Only.refl _ _ | apply Only.alloc)) (fun _ _ => id)) i hil) Try.underlying29) (Nat.zero_add _) rfl (by unfold maxLen; omega) (by omega) ?_)
    intro a1 cap1 w1 hG
    have HO1 : Hid (Only (fun _ => False) w w1) := Lib.hid (((Only.refl _ w).alloc _).trans hG.only (fun j hj h => by have : w.heap.size = j := h; omega))
    have HF1 : Hid (∀ j, At a1 j → w.heap.size ≤ j) := Lib.hid (fun j hj => by
      rcases hG.fresh j hj with h | h
      · have : w.heap.size = j := h; omega
      · simp at h; omega)
    have HOW1 := Lib.hid hG.own
    clear hG
    go_wp2_with (at_builtin; refine wpList_append (i + 0) (B (deleteL b i)) rfl _ _ _ _ rfl slBool rfl HOW1.out rfl (HSR.out _ HO1.out) rfl HXS.out (by unfold maxLen; omega) (by omega) ?_)
    intro a3 cap3 w3 hG
    have HF := Lib.hid (HFIN.out w1 a1 cap1 w3 a3 cap3 HO1.out HF1.out 0 HTL.out hG)
    clear hG
    go_wp2_with fail
    go_ret
    exact HF.out
  · have HSR : Hid (∀ wx, Only (fun _ => False) w wx → Src Try.prog 1 29 (.slice (some ⟨x, off + i1, none⟩) (n - i1) (cap0 - i1)) (n - i1) (B (b.drop i1)) wx) := Lib.hid (fun wx hS => src_bools (hrb.keep hS (fun _ _ => id)) i1 hi1n hcap)
    have hcap' : ¬ (cap0 : Int) = (i1 : Int) := by omega
    clear hrb hnn HNN
    go_enter Try.func14, Try.ntmps14
    go_wp2_with (at_builtin; refine wpList_append i (B (b.take i)) rfl _ _ _ _ rfl slBool rfl (own_empty _ (default : World) _ _ (heap_alloc_new' _ _ _ rfl)) rfl (Rd.src (RB.firstI (HRB.out.keep (S := fun _ => False) (by repeat (first | exact Only.refl _ _ | apply Only.alloc)) (fun _ _ => id)) i hil) Try.underlying29) (Nat.zero_add _) rfl (by unfold maxLen; omega) (by omega) ?_)
    intro a1 cap1 w1 hG
    have HO1 : Hid (Only (fun _ => False) w w1) := Lib.hid (((Only.refl _ w).alloc _).trans hG.only (fun j hj h => by have : w.heap.size = j := h; omega))
    have HF1 : Hid (∀ j, At a1 j → w.heap.size ≤ j) := Lib.hid (fun j hj => by
      rcases hG.fresh j hj with h | h
      · have : w.heap.size = j := h; omega
      · simp at h; omega)
    have HOW1 := Lib.hid hG.own
    clear hG
    go_wp2_with (at_builtin; refine wpList_append (i + (n - i1)) (B (deleteL b i)) rfl _ _ _ _ rfl slBool rfl HOW1.out rfl (HSR.out _ HO1.out) rfl HXS.out (by unfold maxLen; omega) (by omega) ?_)
    intro a3 cap3 w3 hG
    have HF := Lib.hid (HFIN.out w1 a1 cap1 w3 a3 cap3 HO1.out HF1.out (n - i1) rfl hG)
    clear hG
    go_wp2_with fail
    go_ret
    exact HF.out
end Go.Proofs.Ytgndpckcdageiaa.bs

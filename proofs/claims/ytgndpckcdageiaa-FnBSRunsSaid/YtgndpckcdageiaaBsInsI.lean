/-
  InsertAt, DeleteAt of the thin package; BSInsert of the reference.
-/
import Derived.Test.YtgndpckcdageiaaBsDelete
import Derived.Test.YtgndpckcdageiaaBsSet64
import Derived.Test.YtgndpckcdageiaaBsLaw
namespace Go.Proofs.Ytgndpckcdageiaa.bs
open Go.RowKit Go.Proofs.Ytgndpckcdageiaa.base Go.Proofs.Ytgndpckcdageiaa.heap Go.Proofs.Ytgndpckcdageiaa.bit
set_option linter.unusedVariables false

/-- a part of a list of bools that is read -/
theorem RB.firstI {w : World} {a : Option Addr} {n cap : Nat} {l : List Bool} (h : RB w a n cap l) (k : Nat) (hk : k ≤ n) : Rd 1 w a k cap (B (l.take k)) := by
  have e : (B l).take k = B (l.take k) := by unfold B; rw [List.map_take]
  rw [← e]
  exact ⟨by rw [List.length_take, h.1.len]; omega, by have := h.1.le; omega, h.1.max, fun u hu => h.1.one u (List.mem_of_mem_take hu), fun hp => by
    obtain ⟨b, off, ha, hb, hc⟩ := h.1.cells (by omega)
    exact ⟨b, off, ha, hb, hc.take k⟩, h.1.nilcap⟩
theorem RB.rest {w : World} {b off n cap : Nat} {l : List Bool} (h : RB w (some ⟨b, off, none⟩) n cap l) (k : Nat) (hk : k < n) : Rd 1 w (some ⟨b, off + k, none⟩) (n - k) (cap - k) (B (l.drop k)) := by
  have e : (B l).drop k = B (l.drop k) := by unfold B; rw [List.map_drop]
  rw [← e]
  refine ⟨by rw [List.length_drop, h.1.len]; omega, by have := h.1.le; omega, by have := h.1.max; omega, fun u hu => h.1.one u (List.mem_of_mem_drop hu), fun hp => ?_, fun hx => by cases hx⟩
  obtain ⟨b', off', ha, hb, hc⟩ := h.1.cells (by omega)
  cases ha
  exact ⟨b, off + k, rfl, hb, hc.drop k⟩

set_option maxRecDepth 100000 in
set_option maxHeartbeats 1600000 in
theorem bsInsert (a0 : Option Addr) (cap0 : Nat) (b : List Bool) (i : Nat) (w : World) (hrb : RB w a0 b.length cap0 b) (hn : b.length ≤ 1048000) (hi : i < b.length) :
    Calls Try.prog 13 #[.slice a0 b.length cap0, .int .i64 (i : Int)] w (RetBools (insertL b i) w) := by
  obtain ⟨x, off, rfl, hx, -⟩ := hrb.at (by omega)
  have hc := hrb.1.le
  have hnc : ¬ cap0 = i := by omega
  have hic : i ≤ cap0 := by omega
  have hi' : (i : Int) ≤ (b.length : Int) := by omega
  have hil : i ≤ b.length := by omega
  have HRB := Lib.hid hrb
  clear hrb
  go_enter Try.func13, Try.ntmps13
  have hcat : ∀ l l' : List Bool, B l ++ B l' = B (l ++ l') := fun l l' => by simp [B]
  have HCAT := Lib.hid hcat
  clear hcat
  go_wp2_with (at_builtin; refine wpList_append i (B (b.take i)) rfl _ _ _ _ rfl slBool rfl (own_empty _ (default : World) _ _ (heap_alloc_new' _ _ _ rfl)) rfl (Rd.src (RB.firstI (HRB.out.keep (S := fun _ => False) (by repeat (first | exact Only.refl _ _ | apply Only.alloc)) (fun _ _ => id)) i hil) Try.underlying29) (Nat.zero_add _) rfl (by unfold maxLen; omega) (by omega) ?_)
  intro a1 cap1 w1 hG
  have HO1 : Hid (Only (fun _ => False) w w1) := Lib.hid (((Only.refl _ w).alloc _).trans hG.only (fun j hj h => by have : w.heap.size = j := h; omega))
  have HF1 : Hid (∀ j, At a1 j → w.heap.size ≤ j) := Lib.hid (fun j hj => by
    rcases hG.fresh j hj with h | h
    · have : w.heap.size = j := h; omega
    · simp at h; omega)
  have HOW1 := Lib.hid hG.own
  clear hG
  go_wp2_with (at_builtin; refine wpList_append (i + 1) (B (b.take i ++ [false])) rfl _ _ _ _ rfl slBool rfl (HOW1.out.keep (S := fun _ => False) ((Only.refl _ _).alloc _) (fun _ _ => id)) rfl (Src.row (cs := #[.bool false]) (t := 4) (fr := (0, 0)) Try.underlying29 (heap_alloc_new' _ _ _ (by simp)) 1 1 rfl (by simp [Value.oneCell'])) rfl (HCAT.out _ [false]) (by unfold maxLen; omega) (by omega) ?_)
  intro a2 cap2 w2 hG
  have HO2 : Hid (Only (fun _ => False) w w2) := Lib.hid (HO1.out.trans (((Only.refl (At a1) w1).alloc _).trans hG.only (fun _ _ h => h)) (fun j hj h => by have := HF1.out j h; omega))
  have HF2 : Hid (∀ j, At a2 j → w.heap.size ≤ j) := Lib.hid (fun j hj => by
    have h0 := HO1.out.size
    rcases hG.fresh j hj with h | h
    · exact HF1.out j h
    · simp at h; omega)
  have HOW2 := Lib.hid hG.own
  clear hG
  have hlen : (insertL b i).length = b.length + 1 := insertL_len b i (by omega)
  have hN : i + 1 + (b.length - i) = b.length + 1 := by omega
  have hXS : B (b.take i ++ [false]) ++ B (b.drop i) = B (insertL b i) := by rw [HCAT.out]; unfold insertL; rw [List.append_assoc]; rfl
  have HXS := Lib.hid hXS
  have HLEN := Lib.hid hlen
  clear hXS hlen
  go_wp2_with (at_builtin; refine wpList_append (b.length + 1) (B (insertL b i)) rfl _ _ _ _ rfl slBool rfl HOW2.out rfl (Rd.src (RB.rest (HRB.out.keep (S := fun _ => False) HO2.out (fun _ _ => id)) i hi) Try.underlying29) hN HXS.out (by unfold maxLen; omega) (by omega) ?_)
  intro a3 cap3 w3 hG
  have HFIN : Hid (RetBools (insertL b i) w (.returned (.slice a3 (b.length + 1) cap3)) w3) := Lib.hid (by
    refine ⟨a3, cap3, by rw [HLEN.out], ?_, HO2.out.trans hG.only (fun j hj h => by have := HF2.out j h; omega), fun j hj => ?_⟩
    · rw [HLEN.out]
      exact ⟨hG.own.rd, HLEN.out⟩
    · have h0 := HO2.out.size
      rcases hG.fresh j hj with h | h
      · exact HF2.out j h
      · omega)
  clear hG
  go_wp2_with fail
  go_ret
  exact HFIN.out
end Go.Proofs.Ytgndpckcdageiaa.bs

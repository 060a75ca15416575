/-
  The reference's BSTwo: where one of two lists of bits, or the first alone, is set. Printed by a program of mine.
-/
import Derived.Test.YtgndpckcdageiaaBsOps2
import Derived.Test.YtgndpckcdageiaaBsLists
import Derived.Test.YtgndpckcdageiaaBsLaw
namespace Go.Proofs.Ytgndpckcdageiaa.bs
open Go.RowKit Go.Proofs.Ytgndpckcdageiaa.base Go.Proofs.Ytgndpckcdageiaa.heap Go.Proofs.Ytgndpckcdageiaa.bit
set_option linter.unusedVariables false

set_option maxRecDepth 100000 in
set_option maxHeartbeats 3200000 in
theorem bsTwo2 (a1 a2 : Option Addr) (cap1 cap2 : Nat) (b b2 : List Bool) (w : World) (h1 : RB w a1 b.length cap1 b) (h2 : RB w a2 b2.length cap2 b2) (hn : b.length ≤ 1048576) (hn2 : b2.length ≤ 1048576) :
    Calls Try.prog 15 #[.slice a1 b.length cap1, .slice a2 b2.length cap2, .int .i64 2] w (RetNums (ones (twoL (fun x y => x && !y) b b2 (max b.length b2.length))) w) := by
  obtain ⟨d, hd⟩ : ∃ d, twoL (fun x y => x && !y) b b2 (max b.length b2.length) = d := ⟨_, rfl⟩
  have hdl : d.length = max b.length b2.length := by rw [← hd, twoL_len]
  have HD : Hid (∀ k, k < d.length → ∀ x y, b.getD k false = x → b2.getD k false = y → d.getD k false = (x && !y)) := Lib.hid (fun k hk x y hx hy => by
    rw [← hd, twoL_get, ← hdl, decide_eq_true hk, Bool.true_and, hx, hy])
  rw [hd]
  have hd3 : d.length ≤ b.length ∨ d.length ≤ b2.length := by omega
  have hd4 : b.length ≤ d.length ∧ b2.length ≤ d.length := by omega
  clear hd hdl
  obtain ⟨hd5, hd6⟩ := hd4
  have HX : Hid (∀ (k : Nat) x, k ≤ 1048576 → b.getD k false = x → ∀ wx, Same w wx → Calls Try.prog 36 #[.slice a1 b.length cap1, .int .i64 (k : Int)] wx fun e w' => e = .returned (.bool x) ∧ wx = w') := Lib.hid (fun k x hk hx wx hw => by
    subst hx
    exact (bsOf a1 cap1 b k wx (h1.keep hw (fun _ _ => id)) hn hk).mono fun e w' ⟨he, hw⟩ => ⟨he, hw.symm⟩)
  have HY : Hid (∀ (k : Nat) x, k ≤ 1048576 → b2.getD k false = x → ∀ wx, Same w wx → Calls Try.prog 36 #[.slice a2 b2.length cap2, .int .i64 (k : Int)] wx fun e w' => e = .returned (.bool x) ∧ wx = w') := Lib.hid (fun k x hk hx wx hw => by
    subst hx
    exact (bsOf a2 cap2 b2 k wx (h2.keep hw (fun _ _ => id)) hn2 hk).mono fun e w' ⟨he, hw⟩ => ⟨he, hw.symm⟩)
  have hbd1 := h1.1.bound
  have hbd2 := h2.1.bound
  clear h1 h2
  go_enter Try.func15, Try.ntmps15
  go_wp2_with fail
  go_loopw [7, 8] (fun s i wr => ∃ (k : Nat) (a : Option Addr) (cap : Nat), k ≤ d.length ∧ i = .int .i64 (k : Int) ∧ s = .slice a (onesTo d k).length cap ∧ Hid (Only (fun _ => False) w wr ∧ Own 22 1 wr a (onesTo d k).length cap (U (onesTo d k)) ∧ ∀ j, At a j → w.heap.size ≤ j)) (fun _ i _ => d.length - (intOf i).toNat)
  case atStart => exact ⟨0, none, 0, Nat.zero_le _, rfl, rfl, Lib.hid ⟨by repeat (first | exact Only.refl _ _ | apply Only.alloc | apply Only.drewN), Own.nil _ _ _, fun j hj => hj.elim⟩⟩
  case round =>
    obtain ⟨k, a, cap, hk, rfl, rfl, hrel⟩ := hrel
    have hle := onesTo_le d k
    by_cases hlt : k < d.length
    · have hor : (k : Int) < (b.length : Int) ∨ (¬ (k : Int) < (b.length : Int) ∧ (k : Int) < (b2.length : Int)) := by omega
      obtain ⟨x, hx⟩ : ∃ x, b.getD k false = x := ⟨_, rfl⟩
      obtain ⟨y, hy⟩ : ∃ y, b2.getD k false = y := ⟨_, rfl⟩
      have HG := Lib.hid (HD.out k hlt x y hx hy)
      have HX1 := Lib.hid (HX.out k x (by omega) hx wr hrel.out.1)
      have HY1 := Lib.hid (HY.out k y (by omega) hy wr hrel.out.1)
      clear hx hy
      rcases hor with hl | ⟨hl, hl2⟩
      all_goals
        go_wp2_with fail
        refine HX1.out.mono ?_
        rintro e w1 ⟨rfl, rfl⟩
        go_wp2_with fail
        refine HY1.out.mono ?_
        rintro e w1 ⟨rfl, rfl⟩
        cases x
        all_goals
          cases y
        all_goals
          first
          | (have HG2 : Hid (onesTo d (k + 1) = onesTo d k) := Lib.hid (onesTo_no d k HG.out)
             go_wp2_with fail
             go_roundw
             case rel => exact ⟨k + 1, a, cap, by omega, by go_num, by rw [HG2.out], Lib.hid (by rw [HG2.out]; exact hrel.out)⟩
             case measure => simp [intOf]; omega)
          | (have HG2 : Hid (onesTo d (k + 1) = onesTo d k ++ [k]) := Lib.hid (onesTo_yes d k HG.out)
             go_wp2_with (at_builtin; refine wpList_append ((onesTo d k).length + 1) (U (onesTo d k) ++ [.int .u64 (k : Int)]) rfl _ _ _ _ rfl slUint rfl (hrel.out.2.1.keep (S := fun _ => False) (by repeat (first | exact Only.refl _ _ | apply Only.alloc | apply Only.drewN)) (fun _ _ => id)) rfl (Src.row (cs := #[.int .u64 (k : Int)]) (t := 22) (fr := (0, 0)) Try.underlying23 (heap_alloc_new' _ _ _ (by simp)) 1 1 rfl (by simp [Value.oneCell'])) rfl rfl (by unfold maxLen; omega) (by omega) ?_)
             intro a' cap' w2 hG
             have HGR := Lib.hid hG
             clear hG
             go_wp2_with fail
             go_roundw
             case rel =>
               refine ⟨k + 1, a', cap', by omega, by go_num, by rw [HG2.out, List.length_append]; rfl, Lib.hid ⟨?_, ?_, fun j hj => ?_⟩⟩
               · exact hrel.out.1.trans (((Only.refl (At a) _).alloc _).trans HGR.out.only (fun _ _ h => h)) (fun j hj h => by have := hrel.out.2.2 j h; omega)
               · rw [HG2.out, List.length_append, ← U_app]; exact HGR.out.own
               · rcases HGR.out.fresh j hj with h | h
                 · exact hrel.out.2.2 j h
                 · have := hrel.out.1.size; simp at h; omega
             case measure => simp [intOf]; omega)
    · obtain rfl : k = d.length := by omega
      have hl : ¬ (d.length : Int) < (b.length : Int) := by omega
      have hl2 : ¬ (d.length : Int) < (b2.length : Int) := by omega
      go_wp2_with fail
      go_ret
      exact ⟨a, cap, rfl, ⟨hrel.out.2.1.rd, rfl⟩, hrel.out.1, hrel.out.2.2⟩

set_option maxRecDepth 100000 in
set_option maxHeartbeats 3200000 in
theorem bsTwo0 (a1 a2 : Option Addr) (cap1 cap2 : Nat) (b b2 : List Bool) (w : World) (h1 : RB w a1 b.length cap1 b) (h2 : RB w a2 b2.length cap2 b2) (hn : b.length ≤ 1048576) (hn2 : b2.length ≤ 1048576) :
    Calls Try.prog 15 #[.slice a1 b.length cap1, .slice a2 b2.length cap2, .int .i64 0] w (RetNums (ones (twoL (fun x y => x || y) b b2 (max b.length b2.length))) w) := by
  obtain ⟨d, hd⟩ : ∃ d, twoL (fun x y => x || y) b b2 (max b.length b2.length) = d := ⟨_, rfl⟩
  have hdl : d.length = max b.length b2.length := by rw [← hd, twoL_len]
  have HD : Hid (∀ k, k < d.length → ∀ x y, b.getD k false = x → b2.getD k false = y → d.getD k false = (x || y)) := Lib.hid (fun k hk x y hx hy => by
    rw [← hd, twoL_get, ← hdl, decide_eq_true hk, Bool.true_and, hx, hy])
  rw [hd]
  have hd3 : d.length ≤ b.length ∨ d.length ≤ b2.length := by omega
  have hd4 : b.length ≤ d.length ∧ b2.length ≤ d.length := by omega
  clear hd hdl
  obtain ⟨hd5, hd6⟩ := hd4
  have HX : Hid (∀ (k : Nat) x, k ≤ 1048576 → b.getD k false = x → ∀ wx, Same w wx → Calls Try.prog 36 #[.slice a1 b.length cap1, .int .i64 (k : Int)] wx fun e w' => e = .returned (.bool x) ∧ wx = w') := Lib.hid (fun k x hk hx wx hw => by
    subst hx
    exact (bsOf a1 cap1 b k wx (h1.keep hw (fun _ _ => id)) hn hk).mono fun e w' ⟨he, hw⟩ => ⟨he, hw.symm⟩)
  have HY : Hid (∀ (k : Nat) x, k ≤ 1048576 → b2.getD k false = x → ∀ wx, Same w wx → Calls Try.prog 36 #[.slice a2 b2.length cap2, .int .i64 (k : Int)] wx fun e w' => e = .returned (.bool x) ∧ wx = w') := Lib.hid (fun k x hk hx wx hw => by
    subst hx
    exact (bsOf a2 cap2 b2 k wx (h2.keep hw (fun _ _ => id)) hn2 hk).mono fun e w' ⟨he, hw⟩ => ⟨he, hw.symm⟩)
  have hbd1 := h1.1.bound
  have hbd2 := h2.1.bound
  clear h1 h2
  go_enter Try.func15, Try.ntmps15
  go_wp2_with fail
  go_loopw [7, 8] (fun s i wr => ∃ (k : Nat) (a : Option Addr) (cap : Nat), k ≤ d.length ∧ i = .int .i64 (k : Int) ∧ s = .slice a (onesTo d k).length cap ∧ Hid (Only (fun _ => False) w wr ∧ Own 22 1 wr a (onesTo d k).length cap (U (onesTo d k)) ∧ ∀ j, At a j → w.heap.size ≤ j)) (fun _ i _ => d.length - (intOf i).toNat)
  case atStart => exact ⟨0, none, 0, Nat.zero_le _, rfl, rfl, Lib.hid ⟨by repeat (first | exact Only.refl _ _ | apply Only.alloc | apply Only.drewN), Own.nil _ _ _, fun j hj => hj.elim⟩⟩
  case round =>
    obtain ⟨k, a, cap, hk, rfl, rfl, hrel⟩ := hrel
    have hle := onesTo_le d k
    by_cases hlt : k < d.length
    · have hor : (k : Int) < (b.length : Int) ∨ (¬ (k : Int) < (b.length : Int) ∧ (k : Int) < (b2.length : Int)) := by omega
      obtain ⟨x, hx⟩ : ∃ x, b.getD k false = x := ⟨_, rfl⟩
      obtain ⟨y, hy⟩ : ∃ y, b2.getD k false = y := ⟨_, rfl⟩
      have HG := Lib.hid (HD.out k hlt x y hx hy)
      have HX1 := Lib.hid (HX.out k x (by omega) hx wr hrel.out.1)
      have HY1 := Lib.hid (HY.out k y (by omega) hy wr hrel.out.1)
      clear hx hy
      rcases hor with hl | ⟨hl, hl2⟩
      all_goals
        go_wp2_with fail
        refine HX1.out.mono ?_
        rintro e w1 ⟨rfl, rfl⟩
        go_wp2_with fail
        refine HY1.out.mono ?_
        rintro e w1 ⟨rfl, rfl⟩
        cases x
        all_goals
          cases y
        all_goals
          first
          | (have HG2 : Hid (onesTo d (k + 1) = onesTo d k) := Lib.hid (onesTo_no d k HG.out)
             go_wp2_with fail
             go_roundw
             case rel => exact ⟨k + 1, a, cap, by omega, by go_num, by rw [HG2.out], Lib.hid (by rw [HG2.out]; exact hrel.out)⟩
             case measure => simp [intOf]; omega)
          | (have HG2 : Hid (onesTo d (k + 1) = onesTo d k ++ [k]) := Lib.hid (onesTo_yes d k HG.out)
             go_wp2_with (at_builtin; refine wpList_append ((onesTo d k).length + 1) (U (onesTo d k) ++ [.int .u64 (k : Int)]) rfl _ _ _ _ rfl slUint rfl (hrel.out.2.1.keep (S := fun _ => False) (by repeat (first | exact Only.refl _ _ | apply Only.alloc | apply Only.drewN)) (fun _ _ => id)) rfl (Src.row (cs := #[.int .u64 (k : Int)]) (t := 22) (fr := (0, 0)) Try.underlying23 (heap_alloc_new' _ _ _ (by simp)) 1 1 rfl (by simp [Value.oneCell'])) rfl rfl (by unfold maxLen; omega) (by omega) ?_)
             intro a' cap' w2 hG
             have HGR := Lib.hid hG
             clear hG
             go_wp2_with fail
             go_roundw
             case rel =>
               refine ⟨k + 1, a', cap', by omega, by go_num, by rw [HG2.out, List.length_append]; rfl, Lib.hid ⟨?_, ?_, fun j hj => ?_⟩⟩
               · exact hrel.out.1.trans (((Only.refl (At a) _).alloc _).trans HGR.out.only (fun _ _ h => h)) (fun j hj h => by have := hrel.out.2.2 j h; omega)
               · rw [HG2.out, List.length_append, ← U_app]; exact HGR.out.own
               · rcases HGR.out.fresh j hj with h | h
                 · exact hrel.out.2.2 j h
                 · have := hrel.out.1.size; simp at h; omega
             case measure => simp [intOf]; omega)
    · obtain rfl : k = d.length := by omega
      have hl : ¬ (d.length : Int) < (b.length : Int) := by omega
      have hl2 : ¬ (d.length : Int) < (b2.length : Int) := by omega
      go_wp2_with fail
      go_ret
      exact ⟨a, cap, rfl, ⟨hrel.out.2.1.rd, rfl⟩, hrel.out.1, hrel.out.2.2⟩

set_option maxRecDepth 100000 in
set_option maxHeartbeats 3200000 in
theorem bsTwo3 (a1 a2 : Option Addr) (cap1 cap2 : Nat) (b b2 : List Bool) (w : World) (h1 : RB w a1 b.length cap1 b) (h2 : RB w a2 b2.length cap2 b2) (hn : b.length ≤ 1048576) (hn2 : b2.length ≤ 1048576) :
    Calls Try.prog 15 #[.slice a1 b.length cap1, .slice a2 b2.length cap2, .int .i64 3] w (RetNums (ones (twoL (fun x y => x ^^ y) b b2 (max b.length b2.length))) w) := by
  obtain ⟨d, hd⟩ : ∃ d, twoL (fun x y => x ^^ y) b b2 (max b.length b2.length) = d := ⟨_, rfl⟩
  have hdl : d.length = max b.length b2.length := by rw [← hd, twoL_len]
  have HD : Hid (∀ k, k < d.length → ∀ x y, b.getD k false = x → b2.getD k false = y → d.getD k false = (x ^^ y)) := Lib.hid (fun k hk x y hx hy => by
    rw [← hd, twoL_get, ← hdl, decide_eq_true hk, Bool.true_and, hx, hy])
  rw [hd]
  have hd3 : d.length ≤ b.length ∨ d.length ≤ b2.length := by omega
  have hd4 : b.length ≤ d.length ∧ b2.length ≤ d.length := by omega
  clear hd hdl
  obtain ⟨hd5, hd6⟩ := hd4
  have HX : Hid (∀ (k : Nat) x, k ≤ 1048576 → b.getD k false = x → ∀ wx, Same w wx → Calls Try.prog 36 #[.slice a1 b.length cap1, .int .i64 (k : Int)] wx fun e w' => e = .returned (.bool x) ∧ wx = w') := Lib.hid (fun k x hk hx wx hw => by
    subst hx
    exact (bsOf a1 cap1 b k wx (h1.keep hw (fun _ _ => id)) hn hk).mono fun e w' ⟨he, hw⟩ => ⟨he, hw.symm⟩)
  have HY : Hid (∀ (k : Nat) x, k ≤ 1048576 → b2.getD k false = x → ∀ wx, Same w wx → Calls Try.prog 36 #[.slice a2 b2.length cap2, .int .i64 (k : Int)] wx fun e w' => e = .returned (.bool x) ∧ wx = w') := Lib.hid (fun k x hk hx wx hw => by
    subst hx
    exact (bsOf a2 cap2 b2 k wx (h2.keep hw (fun _ _ => id)) hn2 hk).mono fun e w' ⟨he, hw⟩ => ⟨he, hw.symm⟩)
  have hbd1 := h1.1.bound
  have hbd2 := h2.1.bound
  clear h1 h2
  go_enter Try.func15, Try.ntmps15
  go_wp2_with fail
  go_loopw [7, 8] (fun s i wr => ∃ (k : Nat) (a : Option Addr) (cap : Nat), k ≤ d.length ∧ i = .int .i64 (k : Int) ∧ s = .slice a (onesTo d k).length cap ∧ Hid (Only (fun _ => False) w wr ∧ Own 22 1 wr a (onesTo d k).length cap (U (onesTo d k)) ∧ ∀ j, At a j → w.heap.size ≤ j)) (fun _ i _ => d.length - (intOf i).toNat)
  case atStart => exact ⟨0, none, 0, Nat.zero_le _, rfl, rfl, Lib.hid ⟨by repeat (first | exact Only.refl _ _ | apply Only.alloc | apply Only.drewN), Own.nil _ _ _, fun j hj => hj.elim⟩⟩
  case round =>
    obtain ⟨k, a, cap, hk, rfl, rfl, hrel⟩ := hrel
    have hle := onesTo_le d k
    by_cases hlt : k < d.length
    · have hor : (k : Int) < (b.length : Int) ∨ (¬ (k : Int) < (b.length : Int) ∧ (k : Int) < (b2.length : Int)) := by omega
      obtain ⟨x, hx⟩ : ∃ x, b.getD k false = x := ⟨_, rfl⟩
      obtain ⟨y, hy⟩ : ∃ y, b2.getD k false = y := ⟨_, rfl⟩
      have HG := Lib.hid (HD.out k hlt x y hx hy)
      have HX1 := Lib.hid (HX.out k x (by omega) hx wr hrel.out.1)
      have HY1 := Lib.hid (HY.out k y (by omega) hy wr hrel.out.1)
      clear hx hy
      rcases hor with hl | ⟨hl, hl2⟩
      all_goals
        go_wp2_with fail
        refine HX1.out.mono ?_
        rintro e w1 ⟨rfl, rfl⟩
        go_wp2_with fail
        refine HY1.out.mono ?_
        rintro e w1 ⟨rfl, rfl⟩
        cases x
        all_goals
          cases y
        all_goals
          first
          | (have HG2 : Hid (onesTo d (k + 1) = onesTo d k) := Lib.hid (onesTo_no d k HG.out)
             go_wp2_with fail
             go_roundw
             case rel => exact ⟨k + 1, a, cap, by omega, by go_num, by rw [HG2.out], Lib.hid (by rw [HG2.out]; exact hrel.out)⟩
             case measure => simp [intOf]; omega)
          | (have HG2 : Hid (onesTo d (k + 1) = onesTo d k ++ [k]) := Lib.hid (onesTo_yes d k HG.out)
             go_wp2_with (at_builtin; refine wpList_append ((onesTo d k).length + 1) (U (onesTo d k) ++ [.int .u64 (k : Int)]) rfl _ _ _ _ rfl slUint rfl (hrel.out.2.1.keep (S := fun _ => False) (by repeat (first | exact Only.refl _ _ | apply Only.alloc | apply Only.drewN)) (fun _ _ => id)) rfl (Src.row (cs := #[.int .u64 (k : Int)]) (t := 22) (fr := (0, 0)) Try.underlying23 (heap_alloc_new' _ _ _ (by simp)) 1 1 rfl (by simp [Value.oneCell'])) rfl rfl (by unfold maxLen; omega) (by omega) ?_)
             intro a' cap' w2 hG
             have HGR := Lib.hid hG
             clear hG
             go_wp2_with fail
             go_roundw
             case rel =>
               refine ⟨k + 1, a', cap', by omega, by go_num, by rw [HG2.out, List.length_append]; rfl, Lib.hid ⟨?_, ?_, fun j hj => ?_⟩⟩
               · exact hrel.out.1.trans (((Only.refl (At a) _).alloc _).trans HGR.out.only (fun _ _ h => h)) (fun j hj h => by have := hrel.out.2.2 j h; omega)
               · rw [HG2.out, List.length_append, ← U_app]; exact HGR.out.own
               · rcases HGR.out.fresh j hj with h | h
                 · exact hrel.out.2.2 j h
                 · have := hrel.out.1.size; simp at h; omega
             case measure => simp [intOf]; omega)
    · obtain rfl : k = d.length := by omega
      have hl : ¬ (d.length : Int) < (b.length : Int) := by omega
      have hl2 : ¬ (d.length : Int) < (b2.length : Int) := by omega
      go_wp2_with fail
      go_ret
      exact ⟨a, cap, rfl, ⟨hrel.out.2.1.rd, rfl⟩, hrel.out.1, hrel.out.2.2⟩
end Go.Proofs.Ytgndpckcdageiaa.bs

/-
  The reference's BSShift: where the bits that are set stand, so many places further on.
-/
import Derived.Test.YtmadpemagfbmlaaBsTwoS
namespace Go.Proofs.Ytmadpemagfbmlaa.bs
open Go.RowKit Go.Proofs.Ytmadpemagfbmlaa.base Go.Proofs.Ytmadpemagfbmlaa.heap Go.Proofs.Ytmadpemagfbmlaa.bit
set_option linter.unusedVariables false

set_option maxRecDepth 100000 in
set_option maxHeartbeats 3200000 in
theorem bsShift (a1 : Option Addr) (cap1 : Nat) (b : List Bool) (n : Nat) (w : World) (h1 : RB w a1 b.length cap1 b) (hn : b.length ≤ 1048576) (hn2 : n ≤ 1048576) :
    Calls Try.prog 10 #[.slice a1 b.length cap1, .int .i64 (n : Int)] w (RetNums ((ones b).map (· + n)) w) := by
  have hbd1 := h1.1.bound
  have H1 := Lib.hid h1
  clear h1
  go_enter Try.func10, Try.ntmps10
  go_wp2_with fail
  go_loopw [5, 6] (fun s i wr => ∃ (k : Nat) (a : Option Addr) (cap : Nat), k ≤ b.length ∧ i = .int .i64 (k : Int) ∧ s = .slice a (onesTo b k).length cap ∧ Hid (Only (fun _ => False) w wr ∧ Own 22 1 wr a (onesTo b k).length cap (U ((onesTo b k).map (· + n))) ∧ ∀ j, At a j → w.heap.size ≤ j)) (fun _ i _ => b.length - (intOf i).toNat)
  case atStart => exact ⟨0, none, 0, Nat.zero_le _, rfl, rfl, Lib.hid ⟨by repeat (first | exact Only.refl _ _ | apply Only.alloc | apply Only.drewN), Own.nil _ _ _, fun j hj => hj.elim⟩⟩
  case round =>
    obtain ⟨k, a, cap, hk, rfl, rfl, hrel⟩ := hrel
    have hle := onesTo_le b k
    by_cases hlt : k < b.length
    · have hl : (k : Int) < (b.length : Int) := by omega
      obtain ⟨x, off, rfl, hx, hc⟩ := H1.out.at (by omega)
      have cb : wr.cell? ⟨x, off + k, none⟩ = some (.bool (b.getD k false)) := (hrel.out.1.cell (p := ⟨x, off + k, none⟩) hx id).trans (hc k hlt)
      have g0 : (0 : Int) ≤ (k : Int) + (n : Int) := by omega
      have g1 : IntKind.i64.wrap ((k : Int) + (n : Int)) = ((k + n : Nat) : Int) := by rw [IntKind.wrap_i64]; omega
      clear hc
      cases hg : b.getD k false
      · have HG2 : Hid (onesTo b (k + 1) = onesTo b k) := Lib.hid (onesTo_no b k hg)
        rw [hg] at cb
        clear hg
        go_wp2_with fail
        go_roundw
        case rel => exact ⟨k + 1, a, cap, by omega, by go_num, by rw [HG2.out], Lib.hid (by rw [HG2.out]; exact hrel.out)⟩
        case measure => simp [intOf]; omega
      · have HG2 : Hid (onesTo b (k + 1) = onesTo b k ++ [k]) := Lib.hid (onesTo_yes b k hg)
        rw [hg] at cb
        clear hg
        go_wp2_with (at_builtin; refine wpList_append ((onesTo b k).length + 1) (U ((onesTo b k).map (· + n)) ++ [.int .u64 ((k : Int) + (n : Int))]) rfl _ _ _ _ rfl slUint rfl (hrel.out.2.1.keep (S := fun _ => False) (by repeat (first | exact Only.refl _ _ | apply Only.alloc | apply Only.drewN)) (fun _ _ => id)) rfl (Src.row (cs := #[.int .u64 ((k : Int) + (n : Int))]) (t := 22) (fr := (0, 0)) Try.underlying23 (heap_alloc_new' _ _ _ (by simp)) 1 1 rfl (by simp [Value.oneCell'])) rfl rfl (by unfold maxLen; omega) (by omega) ?_)
        intro a' cap' w2 hG
        have HGR := Lib.hid hG
        clear hG
        go_wp2_with fail
        go_roundw
        case rel =>
          refine ⟨k + 1, a', cap', by omega, by go_num, by rw [HG2.out, List.length_append]; rfl, Lib.hid ⟨?_, ?_, fun j hj => ?_⟩⟩
          · exact hrel.out.1.trans (((Only.refl (At a) _).alloc _).trans HGR.out.only (fun _ _ h => h)) (fun j hj h => by have := hrel.out.2.2 j h; omega)
          · rw [HG2.out, List.length_append, List.map_append, List.map_cons, List.map_nil, ← U_app]; exact HGR.out.own
          · rcases HGR.out.fresh j hj with h | h
            · exact hrel.out.2.2 j h
            · have := hrel.out.1.size; simp at h; omega
        case measure => simp [intOf]; omega
    · obtain rfl : k = b.length := by omega
      have hl : ¬ (b.length : Int) < (b.length : Int) := by omega
      go_wp2_with fail
      go_ret
      exact ⟨a, cap, by rw [List.length_map]; rfl, ⟨by rw [List.length_map]; exact hrel.out.2.1.rd, rfl⟩, hrel.out.1, hrel.out.2.2⟩
end Go.Proofs.Ytmadpemagfbmlaa.bs

/-
  The thin package: a bitset is told as Bits (said64).
-/
import Derived.Test.YtgndpckcdageiaaBsCore
import Derived.Laws.ResultCell
namespace Go.Proofs.Ytgndpckcdageiaa.bs
open Go.RowKit Go.Proofs.Ytgndpckcdageiaa.base Go.Proofs.Ytgndpckcdageiaa.heap Go.Proofs.Ytgndpckcdageiaa.bit
set_option linter.unusedVariables false

/-- Test, of a bitset that stands for b -/
theorem test (o : O) (b : List Bool) (i : Nat) (w : World) (h : o.ok w) (hr : o.rep b) (hi2 : i < 4611686018427387904) :
    Calls Try.prog 45 #[o.ptr, .int .u64 (i : Int)] w fun e w' => e = .returned (.bool (b.getD i false)) ∧ ∃ m, w' = w.drewN m := by
  have h1 := hr.len
  have h2 := hr.room
  by_cases hi : i < o.n
  · have := test_yes o i w h hi (by omega) hi2
    rwa [hr.bits i] at this
  · have := test_no o i w h (by omega) hi2
    rwa [show b.getD i false = false from by simp [show b.length ≤ i by omega]]

/-- the Bits that are being made -/
structure Making (w : World) (ob n k : Nat) (b : List Bool) (wr : World) : Prop where
  only : Only (fun _ => False) w wr
  ex : ∃ a cap, wr.heap[ob]? = some (.cells #[.int .u64 (n : Int), .slice a (onesTo b k).length cap] 25 (0, 0)) ∧ Own 22 1 wr a (onesTo b k).length cap (U (onesTo b k)) ∧ (∀ j, At a j → ob < j)

set_option maxHeartbeats 1600000 in
theorem said64 (o : O) (b : List Bool) (w : World) (h : o.ok w) (hr : o.rep b) (hn : b.length ≤ 1048576) :
    Calls Try.prog 33 #[o.ptr] w (RetBits b w) := by
  have hlt := h.lt
  go_enter Try.func33, Try.ntmps33
  go_wp2_with fail
  refine (bs_len o _ (h.keep (S := fun _ => False) ((Only.refl _ w).alloc _) (fun _ _ => id))).mono ?_
  rintro e w1 ⟨rfl, rfl⟩
  rw [hr.len]
  go_wp2_with fail
  have hM0 : Making w (w.heap.size + 1) b.length 0 b ((w.alloc (Obj.cells #[Value.int IntKind.u64 0, Value.slice none 0 0] 25)).alloc (Obj.cells #[Value.int IntKind.u64 (b.length : Int), Value.slice none 0 0] 25)) :=
    ⟨((Only.refl _ w).alloc _).alloc _, none, 0, heap_alloc_new' _ _ _ (by simp), Own.nil _ _ _, fun j hj => hj.elim⟩
  have hres : ((w.alloc (Obj.cells #[Value.int IntKind.u64 0, Value.slice none 0 0] 25)).alloc (Obj.cells #[Value.int IntKind.u64 (b.length : Int), Value.slice none 0 0] 25)).heap[w.heap.size]? = some (Obj.cells #[Value.int IntKind.u64 0, Value.slice none 0 0] 25 (0, 0)) := by
    rw [Below.heap_alloc _ _ _ (by simp)]; exact heap_alloc_new' _ _ _ rfl
  have HM0 := Lib.hid hM0
  have H := Lib.hid h
  have HR := Lib.hid hr
  have HRES := Lib.hid hres
  clear hM0 h hr hres
  go_loopw [4] (fun i wr => ∃ k : Nat, k ≤ b.length ∧ i = .int .u64 (k : Int) ∧ Making w (w.heap.size + 1) b.length k b wr ∧ wr.heap[w.heap.size]? = some (Obj.cells #[Value.int IntKind.u64 0, Value.slice none 0 0] 25 (0, 0))) (fun i _ => b.length - (intOf i).toNat)
  case atStart => exact ⟨0, Nat.zero_le _, rfl, HM0.out, HRES.out⟩
  case round =>
    obtain ⟨k, hk, rfl, hM, hres⟩ := hrel
    clear HM0 HRES
    obtain ⟨hO, a, cap, hob, hown, hat⟩ := hM
    have c0 : wr.cell? ⟨w.heap.size + 1, 0, none⟩ = some (.int .u64 (b.length : Int)) := block_cell hob rfl
    have c1 : wr.cell? ⟨w.heap.size + 1, 1, none⟩ = some (.slice a (onesTo b k).length cap) := block_cell hob rfl
    have hokr := H.out.keep hO (fun _ _ => id)
    have hle := onesTo_le b k
    have HO := Lib.hid hO
    have HOB := Lib.hid hob
    have HOWN := Lib.hid hown
    have HAT := Lib.hid hat
    have HRES := Lib.hid hres
    have HOKR := Lib.hid hokr
    clear hO hob hown hat hres hokr
    by_cases hlt : k < b.length
    · have hlt' : (k : Int) < (b.length : Int) := by omega
      cases hg : b.getD k false
      · have HG : Hid (onesTo b (k + 1) = onesTo b k) := Lib.hid (onesTo_no b k hg)
        have HT : Hid (∀ wx, wx.heap = wr.heap → Calls Try.prog 45 #[o.ptr, .int .u64 (k : Int)] wx fun e w' => e = .returned (.bool false) ∧ ∃ m, w' = wx.drewN m) := Lib.hid (fun wx hx => by
          have := test o b k wx (HOKR.out.of_heap hx) HR.out (by omega)
          rwa [hg] at this)
        clear hg
        go_wp2_with (go_at_call 45; refine (HT.out _ (by exact rfl)).mono ?_; rintro e w' ⟨rfl, q, rfl⟩)
        go_roundw
        case rel => exact ⟨k + 1, by omega, by go_num, ⟨HO.out.drewN _, a, cap, by rw [HG.out]; exact HOB.out, by rw [HG.out]; exact HOWN.out.of_heap rfl, HAT.out⟩, HRES.out⟩
        case measure => simp [intOf]; omega
      · have HG : Hid (onesTo b (k + 1) = onesTo b k ++ [k]) := Lib.hid (onesTo_yes b k hg)
        have HT : Hid (∀ wx, wx.heap = wr.heap → Calls Try.prog 45 #[o.ptr, .int .u64 (k : Int)] wx fun e w' => e = .returned (.bool true) ∧ ∃ m, w' = wx.drewN m) := Lib.hid (fun wx hx => by
          have := test o b k wx (HOKR.out.of_heap hx) HR.out (by omega)
          rwa [hg] at this)
        clear hg
        go_wp2_with (first | (go_at_call 45; refine (HT.out _ (by exact rfl)).mono ?_; rintro e w' ⟨rfl, q, rfl⟩) |
          (at_builtin; refine wpList_append ((onesTo b k).length + 1) (U (onesTo b k) ++ [.int .u64 (k : Int)]) rfl _ _ _ _ rfl slUint rfl (HOWN.out.keep (S := fun _ => False) (by repeat (first | exact Only.refl _ _ | apply Only.alloc | apply Only.drewN)) (fun _ _ => id)) rfl
            (Src.row (cs := #[.int .u64 (k : Int)]) (t := 22) (fr := (0, 0)) Try.underlying23 (heap_alloc_new' _ _ _ (by simp)) 1 1 rfl (by simp [Value.oneCell'])) rfl rfl (by unfold maxLen; omega) (by omega) ?_))
        intro a' cap' w2 hG
        have HG2 := Lib.hid hG
        clear hG
        have hO2 : Only (At a) wr w2 := (((Only.refl (At a) wr).drewN q).alloc _).trans HG2.out.only (fun _ _ h => h)
        have hob2 : w2.heap[w.heap.size + 1]? = some (.cells #[.int .u64 (b.length : Int), .slice a (onesTo b k).length cap] 25 (0, 0)) := hO2.obj HOB.out (fun h => by have := HAT.out _ h; omega)
        have c12 : w2.cell? ⟨w.heap.size + 1, 1, none⟩ = some (.slice a (onesTo b k).length cap) := block_cell hob2 rfl
        have f12 : w2.frozen? ⟨w.heap.size + 1, 1, none⟩ = false := block_free hob2
        have hO2' : Only (fun _ => False) w w2 := HO.out.trans hO2 (fun j hj h => by have := HAT.out j h; omega)
        have hres2 := hO2.obj HRES.out (fun h => by have := HAT.out _ h; omega)
        have hsz := lt_of_heap HOB.out
        have HRES2 := Lib.hid hres2
        clear hres2
        have HO2 := Lib.hid hO2
        have HOB2 := Lib.hid hob2
        have HO2' := Lib.hid hO2'
        clear hO2 hob2 hO2' c1
        go_wp2_with fail
        go_roundw
        case rel =>
          refine ⟨k + 1, by omega, by go_num, ⟨HO2'.out.setCell _ _ (fun h => absurd h (by simp)), a', cap', ?_, ?_, fun j hj => ?_⟩, ?_⟩
          · rw [setCell_heap HOB2.out 1 _, HG.out, List.length_append]; rfl
          · rw [HG.out, List.length_append, ← U_app]
            exact HG2.out.own.keep (S := fun j => j = w.heap.size + 1) ((Only.refl _ _).setCell _ _ (fun _ => rfl)) (fun j hj e => by
              rcases HG2.out.fresh j hj with h | h
              · have := HAT.out j h; omega
              · simp at h; omega)
          · rcases HG2.out.fresh j hj with h | h
            · exact HAT.out j h
            · simp at h; omega
          · rw [Below.heap_setCell _ _ _ _ (by simp)]; exact HRES2.out
        case measure => simp [intOf]; omega
    · obtain rfl : k = b.length := by omega
      have r0 : wr.cell? ⟨w.heap.size, 0, none⟩ = some (.int .u64 0) := block_cell HRES.out rfl
      have r1 : wr.cell? ⟨w.heap.size, 1, none⟩ = some (.slice none 0 0) := block_cell HRES.out rfl
      have rf0 : wr.frozen? ⟨w.heap.size, 0, none⟩ = false := block_free HRES.out
      have rf1 : wr.frozen? ⟨w.heap.size, 1, none⟩ = false := block_free HRES.out
      go_wp2_with fail
      refine bodyPost_ret (v := .agg #[.int .u64 (b.length : Int), .slice a (onesTo b b.length).length cap]) ?_ rfl ⟨a, _, cap, rfl, ⟨?_, rfl⟩, ?_, fun j hj => ⟨by have := HAT.out j hj; omega, by have := HOWN.out.lt j hj; simpa using this⟩⟩
      · simp [results, Try.results33, go_sem, r0, r1]
      · exact (HOWN.out.keep (S := fun j => j = w.heap.size) (((Only.refl (fun j => j = w.heap.size) _).setCell _ _ (fun _ => rfl)).setCell _ _ (fun _ => rfl)) (fun j hj e => by have := HAT.out j hj; omega)).rd
      · exact (HO.out.setCell _ _ (fun h => absurd h (by simp))).setCell _ _ (fun h => absurd h (by simp))
end Go.Proofs.Ytgndpckcdageiaa.bs

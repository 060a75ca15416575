/-
  A new y-fast trie.
-/
import Derived.Test.YtcjifjfcjimefaaDoorZYIns
namespace Go.Proofs.YtcjifjfcjimefaaDoor.yf
open Go.RowKit Go.Proofs.YtcjifjfcjimefaaDoor.base Go.Proofs.YtcjifjfcjimefaaDoor.heap Go.Proofs.YtcjifjfcjimefaaDoor.rows
open Go.Proofs.YtcjifjfcjimefaaDoor.xf hiding Own Tr Tr.keep Tr.still insertC getC lenC insertsC newC PutP Gone FreshP
set_option linter.unusedVariables false

/-- a new trie -/
def FreshP (m : Nat) (w : World) (e : Ending) (w' : World) : Prop := ∃ yb O, e = .returned (op (some yb)) ∧ Tr w' yb O [] m ∧ Same w w' ∧ ∀ k, O k → w.heap.size ≤ k
def InitQ (m yb : Nat) (w : World) (e : Ending) (w' : World) : Prop := e = .returned (.tuple #[]) ∧ ∃ tb xO, xf.Tr w' tb xO [] m ∧ w'.heap[yb]? = some (.cells #[.int .u64 0, op (some tb), .int .u8 (m : Int)] 97 (0, 0)) ∧ Only (fun k => k = yb) w w' ∧ ∀ k, xO k → w.heap.size ≤ k
theorem InitQ.fresh {m : Nat} (hm : Bits m) {w w1 : World} {e : Ending} (hw : 2 ≤ w.heap.size) (h : InitQ m w.heap.size (w.alloc (.cells #[.int .u64 0, .pointer none, .int .u8 0] 97)) e w1) : FreshP m w (.returned (pb w.heap.size)) w1 := by
  obtain ⟨_, tb, xO, h1, h2, h3, h4⟩ := h
  have z : (w.alloc (.cells #[.int .u64 0, .pointer none, .int .u8 0] 97)).heap.size = w.heap.size + 1 := by simp
  have hy := lt_of_heap h2
  refine ⟨w.heap.size, fun k => xO k ∨ k = w.heap.size, rfl, ⟨tb, xO, [], fun _ _ => False, ⟨h1, h2, List.Pairwise.nil, fun y h => absurd h List.not_mem_nil, fun y h => absurd h List.not_mem_nil, fun y h => absurd h List.not_mem_nil, fun _ _ h => h.elim, fun _ _ _ h => h.elim, ⟨fun e => by have := h4 _ e; omega, hw⟩, hm, Nat.le_refl _⟩, fun k hk => ?_, fun k hk => ?_⟩, new_only ((Only.refl _ w).alloc _) h3 (fun k e => by have e' : k = w.heap.size := e; omega), fun k hk => ?_⟩
  · rcases hk with hk | hk | ⟨_, hk⟩
    · exact .inl hk
    · exact .inr hk
    · exact hk.elim
  · rcases hk with hk | rfl
    · exact xf.Tr.lt2 h1 hk
    · exact ⟨hw, hy⟩
  · rcases hk with hk | rfl
    · have := h4 k hk; omega
    · exact Nat.le_refl _
set_option maxRecDepth 1000000 in
set_option maxHeartbeats 1600000 in
theorem new8 (w : World) (hw : 2 ≤ w.heap.size) : Calls Tryd.prog 20 #[.iface 5 (.int .u8 0)] w (FreshP 8 w) := by
  have HI : Hid (∀ w0 yb, 2 ≤ w0.heap.size → w0.heap[yb]? = some (.cells #[.int .u64 0, .pointer none, .int .u8 0] 97 (0, 0)) → Calls Tryd.prog 43 #[pb yb, .iface 5 (.int .u8 0)] w0 (InitQ 8 yb w0)) := Lib.hid (fun w0 yb hw0 h => by
    have HN : Hid (∀ wx, Only (fun k => k = yb) w0 wx → Calls Tryd.prog 31 #[.iface 5 (.int .u8 0)] wx (xf.FreshP 8 wx)) := Lib.hid (fun wx hx => (xf.new8 wx).mono (fun e w' h => h.fresh (by omega) (Nat.le_trans hw0 hx.size)))
    have t2 : w0.cell? ⟨yb, 2, none⟩ = some (.int .u8 0) := block_cell h rfl
    have tf : ∀ i, w0.frozen? ⟨yb, i, none⟩ = false := fun i => block_free h
    have lt := lt_of_heap h
    have HH := Lib.hid h
    have HO1 : Hid (Only (fun k => k = yb) w0 (w0.setCell ⟨yb, 2, none⟩ (.int .u8 8))) := Lib.hid ((Only.refl _ _).setCell ⟨yb, 2, none⟩ _ (fun _ => rfl))
    have as0 : ∀ w : World, (Instr.typeAssert (.iface 5 (.int .u8 0)) 20 5 true).run Tryd.prog w = .ok (.tuple #[.int .u8 0, .bool true]) w := fun w => by kernel_rfl
    have as1 : ∀ w : World, (Instr.typeAssert (.iface 5 (.int .u8 0)) 20 77 true).run Tryd.prog w = .ok (.tuple #[.int .u16 0, .bool false]) w := fun w => by kernel_rfl
    have as2 : ∀ w : World, (Instr.typeAssert (.iface 5 (.int .u8 0)) 20 99 true).run Tryd.prog w = .ok (.tuple #[.int .u32 0, .bool false]) w := fun w => by kernel_rfl
    have as3 : ∀ w : World, (Instr.typeAssert (.iface 5 (.int .u8 0)) 20 57 true).run Tryd.prog w = .ok (.tuple #[.int .u64 0, .bool false]) w := fun w => by kernel_rfl
    have as4 : ∀ w : World, (Instr.typeAssert (.iface 5 (.int .u8 0)) 20 25 true).run Tryd.prog w = .ok (.tuple #[.int .u64 0, .bool false]) w := fun w => by kernel_rfl
    clear h
    go_enter Tryd.func43, Tryd.ntmps43
    go_wp2_with fail
    refine (HN.out _ HO1.out).mono ?_
    rintro e w1 ⟨tb, xO, rfl, h1, hs1, h2⟩
    have hb1 := hs1.obj (setCell_heap HH.out 2 (.int .u8 8)) id
    have t1 : w1.cell? ⟨yb, 1, none⟩ = some (.pointer none) := block_cell hb1 rfl
    have f1 : ∀ i, w1.frozen? ⟨yb, i, none⟩ = false := fun i => block_free hb1
    have lt1 := lt_of_heap hb1
    have HQ : Hid (InitQ 8 yb w0 (.returned (.tuple #[])) (w1.setCell ⟨yb, 1, none⟩ (pb tb))) := Lib.hid (by
      have hO := (Only.refl (fun k => k = yb) w1).setCell ⟨yb, 1, none⟩ (pb tb) (fun _ => rfl)
      have hnx : ∀ k, xO k → k ≠ yb := fun k hk e => by have := h2 k hk; have := HO1.out.size; omega
      refine ⟨rfl, tb, xO, h1.keep hO (fun k hk e => hnx k hk e) (fun y hy => absurd hy List.not_mem_nil), setCell_heap hb1 1 (pb tb), (HO1.out.trans (hs1.mono (fun _ _ f => f.elim)) (fun _ _ h => h)).trans hO (fun _ _ h => h), fun k hk => Nat.le_trans HO1.out.size (h2 k hk)⟩)
    rw [show op (some tb) = Value.pointer (some ⟨tb, 0, none⟩) from rfl]
    clear h1 hs1 h2 hb1
    go_wp2_with fail
    go_end0
    exact HQ.out)
  go_enter Tryd.func20, Tryd.ntmps20
  go_wp2_with fail
  refine (HI.out _ _ (by simp; omega) (heap_alloc_new _ _)).mono ?_
  intro e w1 h1
  have HX := Lib.hid (InitQ.fresh (by unfold Bits; omega) hw h1)
  obtain ⟨rfl, _⟩ := h1
  go_wp2_with fail
  go_ret
  exact HX.out
set_option maxRecDepth 1000000 in
set_option maxHeartbeats 1600000 in
theorem new16 (w : World) (hw : 2 ≤ w.heap.size) : Calls Tryd.prog 20 #[.iface 77 (.int .u16 0)] w (FreshP 16 w) := by
  have HI : Hid (∀ w0 yb, 2 ≤ w0.heap.size → w0.heap[yb]? = some (.cells #[.int .u64 0, .pointer none, .int .u8 0] 97 (0, 0)) → Calls Tryd.prog 43 #[pb yb, .iface 77 (.int .u16 0)] w0 (InitQ 16 yb w0)) := Lib.hid (fun w0 yb hw0 h => by
    have HN : Hid (∀ wx, Only (fun k => k = yb) w0 wx → Calls Tryd.prog 31 #[.iface 77 (.int .u16 0)] wx (xf.FreshP 16 wx)) := Lib.hid (fun wx hx => (xf.new16 wx).mono (fun e w' h => h.fresh (by omega) (Nat.le_trans hw0 hx.size)))
    have t2 : w0.cell? ⟨yb, 2, none⟩ = some (.int .u8 0) := block_cell h rfl
    have tf : ∀ i, w0.frozen? ⟨yb, i, none⟩ = false := fun i => block_free h
    have lt := lt_of_heap h
    have HH := Lib.hid h
    have HO1 : Hid (Only (fun k => k = yb) w0 (w0.setCell ⟨yb, 2, none⟩ (.int .u8 16))) := Lib.hid ((Only.refl _ _).setCell ⟨yb, 2, none⟩ _ (fun _ => rfl))
    have as0 : ∀ w : World, (Instr.typeAssert (.iface 77 (.int .u16 0)) 20 5 true).run Tryd.prog w = .ok (.tuple #[.int .u8 0, .bool false]) w := fun w => by kernel_rfl
    have as1 : ∀ w : World, (Instr.typeAssert (.iface 77 (.int .u16 0)) 20 77 true).run Tryd.prog w = .ok (.tuple #[.int .u16 0, .bool true]) w := fun w => by kernel_rfl
    have as2 : ∀ w : World, (Instr.typeAssert (.iface 77 (.int .u16 0)) 20 99 true).run Tryd.prog w = .ok (.tuple #[.int .u32 0, .bool false]) w := fun w => by kernel_rfl
    have as3 : ∀ w : World, (Instr.typeAssert (.iface 77 (.int .u16 0)) 20 57 true).run Tryd.prog w = .ok (.tuple #[.int .u64 0, .bool false]) w := fun w => by kernel_rfl
    have as4 : ∀ w : World, (Instr.typeAssert (.iface 77 (.int .u16 0)) 20 25 true).run Tryd.prog w = .ok (.tuple #[.int .u64 0, .bool false]) w := fun w => by kernel_rfl
    clear h
    go_enter Tryd.func43, Tryd.ntmps43
    go_wp2_with fail
    refine (HN.out _ HO1.out).mono ?_
    rintro e w1 ⟨tb, xO, rfl, h1, hs1, h2⟩
    have hb1 := hs1.obj (setCell_heap HH.out 2 (.int .u8 16)) id
    have t1 : w1.cell? ⟨yb, 1, none⟩ = some (.pointer none) := block_cell hb1 rfl
    have f1 : ∀ i, w1.frozen? ⟨yb, i, none⟩ = false := fun i => block_free hb1
    have lt1 := lt_of_heap hb1
    have HQ : Hid (InitQ 16 yb w0 (.returned (.tuple #[])) (w1.setCell ⟨yb, 1, none⟩ (pb tb))) := Lib.hid (by
      have hO := (Only.refl (fun k => k = yb) w1).setCell ⟨yb, 1, none⟩ (pb tb) (fun _ => rfl)
      have hnx : ∀ k, xO k → k ≠ yb := fun k hk e => by have := h2 k hk; have := HO1.out.size; omega
      refine ⟨rfl, tb, xO, h1.keep hO (fun k hk e => hnx k hk e) (fun y hy => absurd hy List.not_mem_nil), setCell_heap hb1 1 (pb tb), (HO1.out.trans (hs1.mono (fun _ _ f => f.elim)) (fun _ _ h => h)).trans hO (fun _ _ h => h), fun k hk => Nat.le_trans HO1.out.size (h2 k hk)⟩)
    rw [show op (some tb) = Value.pointer (some ⟨tb, 0, none⟩) from rfl]
    clear h1 hs1 h2 hb1
    go_wp2_with fail
    go_end0
    exact HQ.out)
  go_enter Tryd.func20, Tryd.ntmps20
  go_wp2_with fail
  refine (HI.out _ _ (by simp; omega) (heap_alloc_new _ _)).mono ?_
  intro e w1 h1
  have HX := Lib.hid (InitQ.fresh (by unfold Bits; omega) hw h1)
  obtain ⟨rfl, _⟩ := h1
  go_wp2_with fail
  go_ret
  exact HX.out
set_option maxRecDepth 1000000 in
set_option maxHeartbeats 1600000 in
theorem new32 (w : World) (hw : 2 ≤ w.heap.size) : Calls Tryd.prog 20 #[.iface 99 (.int .u32 0)] w (FreshP 32 w) := by
  have HI : Hid (∀ w0 yb, 2 ≤ w0.heap.size → w0.heap[yb]? = some (.cells #[.int .u64 0, .pointer none, .int .u8 0] 97 (0, 0)) → Calls Tryd.prog 43 #[pb yb, .iface 99 (.int .u32 0)] w0 (InitQ 32 yb w0)) := Lib.hid (fun w0 yb hw0 h => by
    have HN : Hid (∀ wx, Only (fun k => k = yb) w0 wx → Calls Tryd.prog 31 #[.iface 99 (.int .u32 0)] wx (xf.FreshP 32 wx)) := Lib.hid (fun wx hx => (xf.new32 wx).mono (fun e w' h => h.fresh (by omega) (Nat.le_trans hw0 hx.size)))
    have t2 : w0.cell? ⟨yb, 2, none⟩ = some (.int .u8 0) := block_cell h rfl
    have tf : ∀ i, w0.frozen? ⟨yb, i, none⟩ = false := fun i => block_free h
    have lt := lt_of_heap h
    have HH := Lib.hid h
    have HO1 : Hid (Only (fun k => k = yb) w0 (w0.setCell ⟨yb, 2, none⟩ (.int .u8 32))) := Lib.hid ((Only.refl _ _).setCell ⟨yb, 2, none⟩ _ (fun _ => rfl))
    have as0 : ∀ w : World, (Instr.typeAssert (.iface 99 (.int .u32 0)) 20 5 true).run Tryd.prog w = .ok (.tuple #[.int .u8 0, .bool false]) w := fun w => by kernel_rfl
    have as1 : ∀ w : World, (Instr.typeAssert (.iface 99 (.int .u32 0)) 20 77 true).run Tryd.prog w = .ok (.tuple #[.int .u16 0, .bool false]) w := fun w => by kernel_rfl
    have as2 : ∀ w : World, (Instr.typeAssert (.iface 99 (.int .u32 0)) 20 99 true).run Tryd.prog w = .ok (.tuple #[.int .u32 0, .bool true]) w := fun w => by kernel_rfl
    have as3 : ∀ w : World, (Instr.typeAssert (.iface 99 (.int .u32 0)) 20 57 true).run Tryd.prog w = .ok (.tuple #[.int .u64 0, .bool false]) w := fun w => by kernel_rfl
    have as4 : ∀ w : World, (Instr.typeAssert (.iface 99 (.int .u32 0)) 20 25 true).run Tryd.prog w = .ok (.tuple #[.int .u64 0, .bool false]) w := fun w => by kernel_rfl
    clear h
    go_enter Tryd.func43, Tryd.ntmps43
    go_wp2_with fail
    refine (HN.out _ HO1.out).mono ?_
    rintro e w1 ⟨tb, xO, rfl, h1, hs1, h2⟩
    have hb1 := hs1.obj (setCell_heap HH.out 2 (.int .u8 32)) id
    have t1 : w1.cell? ⟨yb, 1, none⟩ = some (.pointer none) := block_cell hb1 rfl
    have f1 : ∀ i, w1.frozen? ⟨yb, i, none⟩ = false := fun i => block_free hb1
    have lt1 := lt_of_heap hb1
    have HQ : Hid (InitQ 32 yb w0 (.returned (.tuple #[])) (w1.setCell ⟨yb, 1, none⟩ (pb tb))) := Lib.hid (by
      have hO := (Only.refl (fun k => k = yb) w1).setCell ⟨yb, 1, none⟩ (pb tb) (fun _ => rfl)
      have hnx : ∀ k, xO k → k ≠ yb := fun k hk e => by have := h2 k hk; have := HO1.out.size; omega
      refine ⟨rfl, tb, xO, h1.keep hO (fun k hk e => hnx k hk e) (fun y hy => absurd hy List.not_mem_nil), setCell_heap hb1 1 (pb tb), (HO1.out.trans (hs1.mono (fun _ _ f => f.elim)) (fun _ _ h => h)).trans hO (fun _ _ h => h), fun k hk => Nat.le_trans HO1.out.size (h2 k hk)⟩)
    rw [show op (some tb) = Value.pointer (some ⟨tb, 0, none⟩) from rfl]
    clear h1 hs1 h2 hb1
    go_wp2_with fail
    go_end0
    exact HQ.out)
  go_enter Tryd.func20, Tryd.ntmps20
  go_wp2_with fail
  refine (HI.out _ _ (by simp; omega) (heap_alloc_new _ _)).mono ?_
  intro e w1 h1
  have HX := Lib.hid (InitQ.fresh (by unfold Bits; omega) hw h1)
  obtain ⟨rfl, _⟩ := h1
  go_wp2_with fail
  go_ret
  exact HX.out
set_option maxRecDepth 1000000 in
set_option maxHeartbeats 1600000 in
theorem new64 (w : World) (hw : 2 ≤ w.heap.size) : Calls Tryd.prog 20 #[.iface 25 (.int .u64 0)] w (FreshP 64 w) := by
  have HI : Hid (∀ w0 yb, 2 ≤ w0.heap.size → w0.heap[yb]? = some (.cells #[.int .u64 0, .pointer none, .int .u8 0] 97 (0, 0)) → Calls Tryd.prog 43 #[pb yb, .iface 25 (.int .u64 0)] w0 (InitQ 64 yb w0)) := Lib.hid (fun w0 yb hw0 h => by
    have HN : Hid (∀ wx, Only (fun k => k = yb) w0 wx → Calls Tryd.prog 31 #[.iface 25 (.int .u64 0)] wx (xf.FreshP 64 wx)) := Lib.hid (fun wx hx => (xf.new64 wx).mono (fun e w' h => h.fresh (by omega) (Nat.le_trans hw0 hx.size)))
    have t2 : w0.cell? ⟨yb, 2, none⟩ = some (.int .u8 0) := block_cell h rfl
    have tf : ∀ i, w0.frozen? ⟨yb, i, none⟩ = false := fun i => block_free h
    have lt := lt_of_heap h
    have HH := Lib.hid h
    have HO1 : Hid (Only (fun k => k = yb) w0 (w0.setCell ⟨yb, 2, none⟩ (.int .u8 64))) := Lib.hid ((Only.refl _ _).setCell ⟨yb, 2, none⟩ _ (fun _ => rfl))
    have as0 : ∀ w : World, (Instr.typeAssert (.iface 25 (.int .u64 0)) 20 5 true).run Tryd.prog w = .ok (.tuple #[.int .u8 0, .bool false]) w := fun w => by kernel_rfl
    have as1 : ∀ w : World, (Instr.typeAssert (.iface 25 (.int .u64 0)) 20 77 true).run Tryd.prog w = .ok (.tuple #[.int .u16 0, .bool false]) w := fun w => by kernel_rfl
    have as2 : ∀ w : World, (Instr.typeAssert (.iface 25 (.int .u64 0)) 20 99 true).run Tryd.prog w = .ok (.tuple #[.int .u32 0, .bool false]) w := fun w => by kernel_rfl
    have as3 : ∀ w : World, (Instr.typeAssert (.iface 25 (.int .u64 0)) 20 57 true).run Tryd.prog w = .ok (.tuple #[.int .u64 0, .bool false]) w := fun w => by kernel_rfl
    have as4 : ∀ w : World, (Instr.typeAssert (.iface 25 (.int .u64 0)) 20 25 true).run Tryd.prog w = .ok (.tuple #[.int .u64 0, .bool true]) w := fun w => by kernel_rfl
    clear h
    go_enter Tryd.func43, Tryd.ntmps43
    go_wp2_with fail
    refine (HN.out _ HO1.out).mono ?_
    rintro e w1 ⟨tb, xO, rfl, h1, hs1, h2⟩
    have hb1 := hs1.obj (setCell_heap HH.out 2 (.int .u8 64)) id
    have t1 : w1.cell? ⟨yb, 1, none⟩ = some (.pointer none) := block_cell hb1 rfl
    have f1 : ∀ i, w1.frozen? ⟨yb, i, none⟩ = false := fun i => block_free hb1
    have lt1 := lt_of_heap hb1
    have HQ : Hid (InitQ 64 yb w0 (.returned (.tuple #[])) (w1.setCell ⟨yb, 1, none⟩ (pb tb))) := Lib.hid (by
      have hO := (Only.refl (fun k => k = yb) w1).setCell ⟨yb, 1, none⟩ (pb tb) (fun _ => rfl)
      have hnx : ∀ k, xO k → k ≠ yb := fun k hk e => by have := h2 k hk; have := HO1.out.size; omega
      refine ⟨rfl, tb, xO, h1.keep hO (fun k hk e => hnx k hk e) (fun y hy => absurd hy List.not_mem_nil), setCell_heap hb1 1 (pb tb), (HO1.out.trans (hs1.mono (fun _ _ f => f.elim)) (fun _ _ h => h)).trans hO (fun _ _ h => h), fun k hk => Nat.le_trans HO1.out.size (h2 k hk)⟩)
    rw [show op (some tb) = Value.pointer (some ⟨tb, 0, none⟩) from rfl]
    clear h1 hs1 h2 hb1
    go_wp2_with fail
    go_end0
    exact HQ.out)
  go_enter Tryd.func20, Tryd.ntmps20
  go_wp2_with fail
  refine (HI.out _ _ (by simp; omega) (heap_alloc_new _ _)).mono ?_
  intro e w1 h1
  have HX := Lib.hid (InitQ.fresh (by unfold Bits; omega) hw h1)
  obtain ⟨rfl, _⟩ := h1
  go_wp2_with fail
  go_ret
  exact HX.out
theorem newC (m : Nat) (w : World) (h : Bits m) (hw : 2 ≤ w.heap.size) : Calls Tryd.prog 20 #[uni m] w (FreshP m w) := by
  rcases h with rfl | rfl | rfl | rfl
  · exact new8 w hw
  · exact new16 w hw
  · exact new32 w hw
  · exact new64 w hw
end Go.Proofs.YtcjifjfcjimefaaDoor.yf

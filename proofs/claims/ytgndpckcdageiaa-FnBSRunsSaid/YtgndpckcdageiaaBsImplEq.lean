/-
  The thin package: BSEqual.
-/
import Derived.Test.YtgndpckcdageiaaBsOps2
import Derived.Test.YtgndpckcdageiaaBsLaw
import Derived.Deep.RegionHeld3
namespace Go.Proofs.Ytgndpckcdageiaa.bs
open Go.RowKit Go.Proofs.Ytgndpckcdageiaa.base Go.Proofs.Ytgndpckcdageiaa.heap Go.Proofs.Ytgndpckcdageiaa.bit
set_option linter.unusedVariables false

/-- a new bitset, from the world w0 on -/
def FObj (w0 : World) (b : List Bool) (e : Ending) (w' : World) : Prop := ∃ o : O, e = .returned o.ptr ∧ o.ok w' ∧ o.rep b ∧ o.m = (b.length + 63) / 64 ∧ Same w0 w' ∧ ∀ k, o.foot k → w0.heap.size ≤ k
theorem fobj {P : Program} {f : FuncId} {args : Array Value} {w0 w : World} {b : List Bool} (hs : Same w0 w)
    (h : Calls P f args w fun e w' => ∃ o : O, e = .returned o.ptr ∧ o.ok w' ∧ o.rep b ∧ o.m = (b.length + 63) / 64 ∧ Only (fun _ => False) w w' ∧ ∀ k, o.foot k → w.heap.size ≤ k) : Calls P f args w (FObj w0 b) :=
  h.mono fun e w' ⟨o, he, hok, hr, hm, hO, hf⟩ => ⟨o, he, hok, hr, hm, hs.trans hO, fun k hk => Nat.le_trans hs.size (hf k hk)⟩

/-- two parameters of type Bits in variables of their own: the world with them, what it holds -/
theorem twoBoxes {w : World} {v v' : Value} {b b' : List Bool} (h : BV w v b) (h' : BV w v' b') (hn : b.length ≤ 1048000) (hn' : b'.length ≤ 1048000) :
    ∃ a m cap a' m' cap', v = .agg #[.int .u64 (b.length : Int), .slice a m cap] ∧ v' = .agg #[.int .u64 (b'.length : Int), .slice a' m' cap'] ∧
    (∀ W, W = (w.alloc (.cells #[.int .u64 (b.length : Int), .slice a m cap] 25)).alloc (.cells #[.int .u64 (b'.length : Int), .slice a' m' cap'] 25) →
      Same w W ∧ (∀ wx, Same W wx → wx.cell? ⟨w.heap.size, 0, none⟩ = some (.int .u64 (b.length : Int)) ∧ wx.cell? ⟨w.heap.size, 1, none⟩ = some (.slice a m cap) ∧
        wx.cell? ⟨w.heap.size + 1, 0, none⟩ = some (.int .u64 (b'.length : Int)) ∧ wx.cell? ⟨w.heap.size + 1, 1, none⟩ = some (.slice a' m' cap')) ∧
      (∀ w0 wx, Same W w0 → Same w0 wx → Calls Try.prog 16 #[.agg #[.int .u64 (b.length : Int), .slice a m cap]] wx (FObj w0 b)) ∧
      (∀ w0 wx, Same W w0 → Same w0 wx → Calls Try.prog 16 #[.agg #[.int .u64 (b'.length : Int), .slice a' m' cap']] wx (FObj w0 b'))) := by
  obtain ⟨a, m, cap, rfl, hr⟩ := h
  obtain ⟨a', m', cap', rfl, hr'⟩ := h'
  refine ⟨a, m, cap, a', m', cap', rfl, rfl, fun W hW => ?_⟩
  have hS : Same w W := by rw [hW]; exact ((Only.refl _ w).alloc _).alloc _
  have hA : W.heap[w.heap.size]? = some (.cells #[.int .u64 (b.length : Int), .slice a m cap] 25 (0, 0)) := by
    rw [hW, Below.heap_alloc _ _ _ (by simp)]; exact heap_alloc_new _ _
  have hB : W.heap[w.heap.size + 1]? = some (.cells #[.int .u64 (b'.length : Int), .slice a' m' cap'] 25 (0, 0)) := by
    rw [hW]; exact heap_alloc_new' _ _ _ (by simp)
  exact ⟨hS, fun wx hx => ⟨block_cell (still hx hA) rfl, block_cell (still hx hA) rfl, block_cell (still hx hB) rfl, block_cell (still hx hB) rfl⟩,
    fun w0 wx h0 hx => fobj hx (set64 _ b wx ⟨a, m, cap, rfl, hr.keep (hS.trans (h0.trans hx)) (fun _ _ => id)⟩ (by omega)),
    fun w0 wx h0 hx => fobj hx (set64 _ b' wx ⟨a', m', cap', rfl, hr'.keep (hS.trans (h0.trans hx)) (fun _ _ => id)⟩ (by omega))⟩

end Go.Proofs.Ytgndpckcdageiaa.bs

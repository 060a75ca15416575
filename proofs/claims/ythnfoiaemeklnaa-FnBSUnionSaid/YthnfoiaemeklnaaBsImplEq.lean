/-
  The thin package: BSEqual.
-/
import Derived.Test.YthnfoiaemeklnaaBsOps2
import Derived.Test.YthnfoiaemeklnaaBsLaw
import Derived.Deep.RegionHeld3
namespace Go.Proofs.Ythnfoiaemeklnaa.bs
open Go.RowKit Go.Proofs.Ythnfoiaemeklnaa.base Go.Proofs.Ythnfoiaemeklnaa.heap Go.Proofs.Ythnfoiaemeklnaa.bit
set_option linter.unusedVariables false

/-- a new bitset, from the world w0 on -/
def FObj (w0 : World) (b : List Bool) (e : Ending) (w' : World) : Prop := ∃ o : O, e = .returned o.ptr ∧ o.ok w' ∧ o.rep b ∧ o.m = (b.length + 63) / 64 ∧ Same w0 w' ∧ ∀ k, o.foot k → w0.heap.size ≤ k
theorem fobj {P : Program} {f : FuncId} {args : Array Value} {w0 w : World} {b : List Bool} (hs : Same w0 w)
    (h : Calls P f args w fun e w' => ∃ o : O, e = .returned o.ptr ∧ o.ok w' ∧ o.rep b ∧ o.m = (b.length + 63) / 64 ∧ Only (fun _ => False) w w' ∧ ∀ k, o.foot k → w.heap.size ≤ k) : Calls P f args w (FObj w0 b) :=
  h.mono fun e w' ⟨o, he, hok, hr, hm, hO, hf⟩ => ⟨o, he, hok, hr, hm, hs.trans hO, fun k hk => Nat.le_trans hs.size (hf k hk)⟩

/-- two parameters of type Bits in variables of their own: the world with them, what it holds -/
theorem twoBoxes {w : World} {v v' : Value} {b b' : List Bool} (h : BV w v b) (h' : BV w v' b') (hn : b.length ≤ 1048000) (hn' : b'.length ≤ 1048000) :
    ∃ a m cap a' m' cap', v = .agg #[.int .u64 (b.length : Int), .slice a m cap] ∧ v' = .agg #[.int .u64 (b'.length : Int), .slice a' m' cap'] ∧
    (∀ W, W = (w.alloc (.cells #[.int .u64 (b.length : Int), .slice a m cap] 25)).alloc (.cells #[.int .u64 (b'.length : Int), .slice a' m' cap'] 25) →
      Same w W ∧ (∀ wx, Same W wx → wx.cell? ⟨w.heap.size, 0, none⟩ = some (.int .u64 (b.length : Int)) ∧ wx.cell? ⟨w.heap.size, 1, none⟩ = some (.slice a m cap) ∧
        wx.cell? ⟨w.heap.size + 1, 0, none⟩ = some (.int .u64 (b'.length : Int)) ∧ wx.cell? ⟨w.heap.size + 1, 1, none⟩ = some (.slice a' m' cap')) ∧
      (∀ w0 wx, Same W w0 → Same w0 wx → Calls Try.prog 45 #[.agg #[.int .u64 (b.length : Int), .slice a m cap]] wx (FObj w0 b)) ∧
      (∀ w0 wx, Same W w0 → Same w0 wx → Calls Try.prog 45 #[.agg #[.int .u64 (b'.length : Int), .slice a' m' cap']] wx (FObj w0 b'))) := by
  obtain ⟨a, m, cap, rfl, hr⟩ := h
  obtain ⟨a', m', cap', rfl, hr'⟩ := h'
  refine ⟨a, m, cap, a', m', cap', rfl, rfl, fun W hW => ?_⟩
  have hS : Same w W := by rw [hW]; exact ((Only.refl _ w).alloc _).alloc _
  have hA : W.heap[w.heap.size]? = some (.cells #[.int .u64 (b.length : Int), .slice a m cap] 25 (0, 0)) := by
    rw [hW, Below.heap_alloc _ _ _ (by simp)]; exact heap_alloc_new _ _
  have hB : W.heap[w.heap.size + 1]? = some (.cells #[.int .u64 (b'.length : Int), .slice a' m' cap'] 25 (0, 0)) := by
    rw [hW]; exact heap_alloc_new' _ _ _ (by simp)
  exact ⟨hS, fun wx hx => ⟨block_cell (still hx hA) rfl, block_cell (still hx hA) rfl, block_cell (still hx hB) rfl, block_cell (still hx hB) rfl⟩,
    fun w0 wx h0 hx => fobj hx (set64 _ b wx ⟨a, m, cap, rfl, hr.keep (hS.trans (h0.trans hx)) (fun _ _ => id)⟩ (by omega)),
    fun w0 wx h0 hx => fobj hx (set64 _ b' wx ⟨a', m', cap', rfl, hr'.keep (hS.trans (h0.trans hx)) (fun _ _ => id)⟩ (by omega))⟩

set_option maxRecDepth 100000 in
set_option maxHeartbeats 1600000 in
theorem implEqual (v v' : Value) (b b' : List Bool) (w : World) (h : BV w v b) (h' : BV w v' b') (hn : b.length ≤ 1048000) (hn' : b'.length ≤ 1048000) :
    Calls Try.prog 13 #[v, v'] w (RetV (.bool (decide (b = b'))) w) := by
  obtain ⟨a, m, cap, a', m', cap', rfl, rfl, hall⟩ := twoBoxes h h' hn hn'
  have HALL := Lib.hid hall
  clear hall h h'
  go_enter Try.func13, Try.ntmps13
  go_wp2_with fail
  obtain ⟨W, hW⟩ : ∃ W, W = (w.alloc (.cells #[.int .u64 (b.length : Int), .slice a m cap] 25)).alloc (.cells #[.int .u64 (b'.length : Int), .slice a' m' cap'] 25) := ⟨_, rfl⟩
  obtain ⟨hS, hK, h1, h2⟩ := HALL.out W hW
  rw [← hW]
  obtain ⟨d0, d1, e0, e1⟩ := hK W (Only.refl _ _)
  have HK := Lib.hid hK
  have H1 := Lib.hid h1
  have H2 := Lib.hid h2
  have HS := Lib.hid hS
  clear hW hS hK h1 h2 HALL
  go_region_held3 (fun w' => w'.cell? ⟨w.heap.size, 0, none⟩ = some (.int .u64 (b.length : Int)) ∧ w'.cell? ⟨w.heap.size, 1, none⟩ = some (.slice a m cap) ∧ w'.cell? ⟨w.heap.size + 1, 0, none⟩ = some (.int .u64 (b'.length : Int)) ∧ w'.cell? ⟨w.heap.size + 1, 1, none⟩ = some (.slice a' m' cap'))
    (first | go_keep | (go_split_ands; exact HK.out _ (hO1.trans (hO2.trans hO3))) | (go_split_ands; exact HK.out _ (hO1.trans hO2)) | (go_split_ands; exact HK.out _ hO1))
    (first | ((go_at_call 45; (with_reducible refine (H1.out W _ (Only.refl _ _) (by exact (Only.refl _ W).drew)).mono ?_); rintro e w1 ⟨o1, rfl, hok1, hrep1, hm1, hO1, hf1⟩)) | ((go_at_call 45; (with_reducible refine (H2.out w1 _ hO1 (Only.refl _ _)).mono ?_); rintro e w2 ⟨o2, rfl, hok2, hrep2, hm2, hO2, hf2⟩)) | ((go_at_call 46; (with_reducible refine (fquiet (Only.refl _ w2) (equal o1 o2 b b' w2 (hok1.keep hO2 (fun _ _ => id)) hok2 hrep1 hrep2 (by omega))).mono ?_); rintro e w3 ⟨rfl, hO3⟩)))
  go_wp2
  go_ret
  exact ⟨rfl, Same.trans HS.out (Same.trans hO1 (Same.trans hO2 hO3))⟩
end Go.Proofs.Ythnfoiaemeklnaa.bs

/-
  AVL trees: New, copy, Len.
-/
import Derived.Test.YtdamanckgmkbiaaAvList
import Derived.Deep.RegionHeld3
namespace Go.Proofs.Ytdamanckgmkbiaa.av
open Go.RowKit Go.Proofs.Ytdamanckgmkbiaa.base Go.Proofs.Ytdamanckgmkbiaa.heap Go.Proofs.Ytdamanckgmkbiaa.rows
open Tre
set_option linter.unusedVariables false
set_option maxRecDepth 100000 in
theorem lenC {B w g L} (h : Tn B w g L) : Calls Try.prog 30 #[.pointer (at0 g)] w (FV w (.int .u64 (L.length : Int))) := by
  obtain ⟨T, ⟨d, c0, c1, h1, h2, h3⟩, h4, h5, h6, h7⟩ := h
  rw [← h5.size]
  have e1 : w.cell? ⟨g, 1, none⟩ = some (.int .u64 (T.size : Int)) := block_cell h1 rfl
  clear h1 h2 h3 h4 h5 h6 h7
  go_enter Try.func30, Try.ntmps30
  go_wp2_with fail
  go_ret
  exact ⟨rfl, Only.refl _ _⟩
/-- said of what makes a tree -/
def MkP (L : List (Int × Int)) (w : World) (e : Ending) (w' : World) : Prop := ∃ g, e = .returned (.pointer (at0 g)) ∧ Tn w.heap.size w' g L ∧ Same w w'
set_option maxRecDepth 100000 in
theorem initC {w : World} {g : Nat} (h : w.heap[g]? = some (.cells #[.pointer none, .int .u64 0, .int .i8 0, .pointer none, .pointer none, .nilIface] 82 (0, 0))) :
    Calls Try.prog 32 #[.pointer (at0 g)] w (fun e w' => e = .returned (.tuple #[]) ∧ w'.heap[g]? = some (.cells #[.pointer none, .int .u64 0, .int .i8 0, .pointer none, .pointer none, .nilIface] 82 (0, 0)) ∧ Only (fun y => y = g) w w') := by
  have l1 := lt_of_heap h
  have f1 : ∀ i, w.frozen? ⟨g, i, none⟩ = false := fun i => block_free h
  have e2 : w.cell? ⟨g, 2, none⟩ = some (.int .i8 0) := block_cell h rfl
  have e3 : w.cell? ⟨g, 3, none⟩ = some (.pointer none) := block_cell h rfl
  have e4 : w.cell? ⟨g, 4, none⟩ = some (.pointer none) := block_cell h rfl
  have e5 : w.cell? ⟨g, 5, none⟩ = some .nilIface := block_cell h rfl
  have H := Lib.hid h
  clear h
  go_enter Try.func32, Try.ntmps32
  go_wp2_with fail
  go_end0
  refine ⟨rfl, setCell_heap (setCell_heap (setCell_heap (setCell_heap H.out 2 _) 3 _) 4 _) 5 _, only2 (only2 (only2 (only2 (Only.refl (fun x => x = g) w) rfl) rfl) rfl) rfl⟩
theorem rep_nil : Rep .nil [] := ⟨List.Pairwise.nil, List.nodup_nil, fun y => Iff.rfl⟩
set_option maxRecDepth 100000 in
theorem newC (w : World) : Calls Try.prog 27 #[] w (MkP [] w) := by
  go_enter Try.func27, Try.ntmps27
  go_upto_region 2 with fail
  have HC := Lib.hid (initC (heap_alloc_new' w (.cells #[.pointer none, .int .u64 0, .int .i8 0, .pointer none, .pointer none, .nilIface] 82) _ rfl))
  have HS : Hid (Same w (w.alloc (.cells #[.pointer none, .int .u64 0, .int .i8 0, .pointer none, .pointer none, .nilIface] 82))) := Lib.hid ((Only.refl _ w).alloc _)
  go_wp2_with (first | (go_at_call 32; refine HC.out.mono ?_; go_loud (rintro e w2 ⟨rfl, hN, hS⟩; have HN := Lib.hid (And.intro hN hS); clear hN hS)) | fail)
  go_ret
  refine ⟨w.heap.size, rfl, ⟨.nil, ⟨0, none, none, HN.out.1, trivial, fun e => e⟩, trivial, rep_nil, Nat.le_refl _, fun y hy => by cases hy⟩, ?_⟩
  exact Only.trans HS.out HN.out.2 (fun y hy e => absurd hy (by omega))
/-- said of the dummy's making -/
def DuP (g : Nat) (X : Value) (w : World) (e : Ending) (w' : World) : Prop := e = .returned (.pointer (at0 w.heap.size)) ∧ ((w'.cell? ⟨w.heap.size, 0, none⟩ = some (.int .i8 0) ∧ w'.cell? ⟨w.heap.size, 1, none⟩ = some (.pointer none) ∧ w'.cell? ⟨w.heap.size, 2, none⟩ = some (.pointer none) ∧ w'.cell? ⟨w.heap.size, 3, none⟩ = some .nilIface) ∧ w'.cell? ⟨g, 1, none⟩ = some X) ∧ Same w w'
theorem newNodeD {g : Nat} {X : Value} {w : World} (hx : w.cell? ⟨g, 1, none⟩ = some X) (hg : g < w.heap.size) (n : Nat) : Calls Try.prog 37 #[.nilIface] (w.drewN n) (DuP g X w) :=
  (newNodeN (w.drewN n)).mono (fun e w' h => by
    obtain ⟨h1, h2⟩ := h
    rw [h2.out]
    have h3 := heap_alloc_new' (w.drewN n) (.cells #[.int .i8 0, .pointer none, .pointer none, .nilIface] 80) w.heap.size rfl
    have h4 : Same w ((w.drewN n).alloc (.cells #[.int .i8 0, .pointer none, .pointer none, .nilIface] 80)) := ((Only.refl _ w).drewN n).alloc _
    exact ⟨h1, ⟨⟨block_cell h3 rfl, block_cell h3 rfl, block_cell h3 rfl, block_cell h3 rfl⟩, (h4.cell (p := ⟨g, 1, none⟩) hg (fun e => e)).trans hx⟩, h4⟩)
theorem copy_end {w w2 w' : World} {p : Nat} {b k v : Int} {l r : Tre} {L : List (Int × Int)} {N : Nat} (hm : InM w (.nd p b l k v r)) (hb : (Tre.nd p b l k v r).Bal) (hr : Rep (.nd p b l k v r) L) (hn : (Tre.nd p b l k v r).size = N) (hN : Nd w2 w.heap.size b (ad l.ptr) (ad r.ptr) k v) (h2 : Same w w2) (hz : w2.heap.size = w.heap.size + 1) (hs : Same w2 w') :
    MkP L w (.returned (.pointer (at0 w'.heap.size))) (w'.alloc (.cells #[.pointer (at0 w.heap.size), .int .u64 (N : Int), .int .i8 0, .pointer none, .pointer none, .nilIface] 82)) := by
  have hS : Same w (w'.alloc (.cells #[.pointer (at0 w.heap.size), .int .u64 (N : Int), .int .i8 0, .pointer none, .pointer none, .nilIface] 82)) := (h2.trans hs).alloc _
  have hS2 : Same w2 (w'.alloc (.cells #[.pointer (at0 w.heap.size), .int .u64 (N : Int), .int .i8 0, .pointer none, .pointer none, .nilIface] 82)) := hs.alloc _
  obtain ⟨m1, m2, m3, m4, m5⟩ := hm
  have hlt := hs.size
  refine ⟨w'.heap.size, rfl, ⟨.nd w.heap.size b l k v r, ⟨0, none, none, ?_, ⟨hN.still hS2, m2.keep hS (fun _ _ e => e), m3.keep hS (fun _ _ e => e), fun e => ?_, fun e => ?_⟩, ?_⟩, hb, hr, by omega, fun y hy => ?_⟩, hS⟩
  · rw [← hn]
    exact heap_alloc_new' w' _ _ rfl
  · exact absurd (InM.lt m2 _ e) (by omega)
  · exact absurd (InM.lt m3 _ e) (by omega)
  · rintro (e | e | e)
    · omega
    · have := InM.lt m2 _ e; omega
    · have := InM.lt m3 _ e; omega
  · have e : w.heap.size = y := Option.some.inj hy
    omega
set_option maxRecDepth 100000 in
set_option maxHeartbeats 1600000 in
theorem copyC {B w g L} (h : Tn B w g L) : Calls Try.prog 33 #[.pointer (at0 g)] w (MkP L w) := by
  have hl := h.lt
  obtain ⟨T, ⟨d, c0, c1, h1, h2, h3⟩, h4, h5, h6, h7⟩ := h
  have e0 : w.cell? ⟨g, 0, none⟩ = some (.pointer (ad T.ptr)) := block_cell h1 rfl
  have e1 : w.cell? ⟨g, 1, none⟩ = some (.int .u64 (T.size : Int)) := block_cell h1 rfl
  have HH := Lib.hid (And.intro h1 (And.intro h2 (And.intro h3 (And.intro h4 h5))))
  clear h1 h3 h4 h5 h6 h7
  cases T with
  | nil =>
    clear h2
    have e1' : w.cell? ⟨g, 1, none⟩ = some (.int .u64 0) := e1
    have HCN := Lib.hid (newNodeD e1' hl)
    clear e1
    go_enter Try.func33, Try.ntmps33
    go_upto_region 4 with fail
    go_region_with (first | (go_at_call 37; refine (HCN.out 1).mono ?_; go_loud (rintro e w' ⟨rfl, ⟨⟨r0, r1, r2, r3⟩, r4⟩, hs⟩)) | fail)
    all_goals
      have HS := Lib.hid hs
      clear hs r0 r1 r2 r3 r4
      go_wp2_with fail
      go_ret
      exact ⟨_, rfl, ⟨.nil, ⟨0, none, none, heap_alloc_new' w' _ _ rfl, trivial, fun e => e⟩, trivial, HH.out.2.2.2.2, HS.out.size, fun y hy => by cases hy⟩, HS.out.alloc _⟩
  | nd p b l k v r =>
    have HC := Lib.hid (copyN h2.1)
    clear h2
    obtain ⟨N, hN⟩ : ∃ N, (Tre.nd p b l k v r).size = N := ⟨_, rfl⟩
    rw [hN] at e1
    have HNN := Lib.hid hN
    clear hN
    go_enter Try.func33, Try.ntmps33
    go_upto_region 4 with (first | (go_at_call 36; refine HC.out.mono ?_; go_loud (rintro e w2 ⟨rfl, hN, hS, hz⟩; have HN := Lib.hid (And.intro hN (And.intro hS hz)); clear hN hS hz)) | fail)
    have e2 : w2.cell? ⟨g, 1, none⟩ = some (.int .u64 (N : Int)) := (HN.out.2.1.cell (p := ⟨g, 1, none⟩) hl (fun e => e)).trans e1
    have HCN := Lib.hid (newNodeD e2 (Nat.lt_of_lt_of_le hl HN.out.2.1.size))
    go_region_with (first | (go_at_call 37; refine (HCN.out 1).mono ?_; go_loud (rintro e w' ⟨rfl, ⟨⟨r0, r1, r2, r3⟩, r4⟩, hs⟩)) | fail)
    all_goals
      have HS := Lib.hid hs
      clear hs r0 r1 r2 r3 r4
      go_wp2_with fail
      go_ret
      exact copy_end HH.out.2.1 HH.out.2.2.2.1 HH.out.2.2.2.2 HNN.out HN.out.1 HN.out.2.1 HN.out.2.2 HS.out
end Go.Proofs.Ytdamanckgmkbiaa.av

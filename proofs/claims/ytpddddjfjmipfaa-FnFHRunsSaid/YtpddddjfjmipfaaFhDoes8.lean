/-
  does of spec: a lower priority
-/
import Derived.Test.YtpddddjfjmipfaaFhDoes7
namespace Go.Proofs.Ytpddddjfjmipfaa.fh
open Go.RowKit Go.Proofs.Ytpddddjfjmipfaa.base Go.Proofs.Ytpddddjfjmipfaa.heap Go.Proofs.Ytpddddjfjmipfaa.rows Go.Proofs.Ytpddddjfjmipfaa.flt
set_option linter.unusedVariables false
set_option maxRecDepth 100000 in
set_option maxHeartbeats 6400000 in
theorem does4d (a : Option Addr) (n c many : Nat) (L : List En) (sn sp : Int) (sv : Value) (hsv : sv.cells = #[sv]) (xs : Int) (xm : Bool) (w : World) (h : RE w a n c L) (hn : n ≤ 10000) (hm : many ≤ 10000) (k : Nat) (e : En) (hk : L[k]? = some e) (hq : ∀ r', AtI L sn r' → r' = (k : Int)) (hlt : sp < e.p) (hsn : 0 ≤ sn) : Calls Try.prog 19 #[hv a n c many, .agg #[.int .i64 4, .int .i64 sn, .int .i64 sp, sv], .agg #[.bool true, .int .i64 sn, .int .i64 sp, .int .i64 xs, .bool xm]] w (DoP a (L.set k ⟨e.n, sp⟩) many w) := by
  have HR := Lib.hid h
  have hbd := h.bound
  clear h
  obtain ⟨b, off, rfl, hb, _⟩ := HR.out.at enc_len (by have := (List.getElem?_eq_some_iff.1 hk).1; have := HR.out.2; omega)
  have HKK := Lib.hid hk
  have hkn : k < n := by have := (List.getElem?_eq_some_iff.1 hk).1; have := HR.out.2; omega
  clear hk hb
  have e0 : (sn == -1) = false := beq_false_of_ne (by omega)
  go_enter Try.func19, Try.ntmps19
  go_upto_region 1 with fail
  obtain ⟨w1, hw1⟩ : ∃ w1, ((((w.alloc (.cells #[.slice (some ⟨b, off, none⟩) n c, .int .i64 (many : Int)] 28)).alloc (.cells #[.int .i64 4, .int .i64 sn, .int .i64 sp, sv] 31)).alloc (.cells #[.bool true, .int .i64 sn, .int .i64 sp, .int .i64 xs, .bool xm] 35)).alloc (.cells #[.slice none 0 0, .int .i64 0] 28)) = w1 := ⟨_, rfl⟩
  obtain ⟨g, hg⟩ : ∃ g, w.heap.size = g := ⟨_, rfl⟩
  have HG := Lib.hid hg
  have HS1 : Hid (Same w w1) := Lib.hid (by rw [← hw1]; exact ((((Only.refl _ _).alloc _).alloc _).alloc _).alloc _)
  have HB1 : Hid (Bx w1 g (some ⟨b, off, none⟩) n c many 4 sn sp sv true sn sp xs xm) := Lib.hid (by
    have e1 := hw1
    rw [← e1, ← hg]
    exact ⟨((Only.refl (fun _ => False) _).alloc _).alloc _ |>.obj (heap_box _ _) id, by
      have := heap_box (w := w.alloc (.cells #[.slice (some ⟨b, off, none⟩) n c, .int .i64 (many : Int)] 28)) (.cells #[.int .i64 4, .int .i64 sn, .int .i64 sp, sv] 31) (.cells #[.bool true, .int .i64 sn, .int .i64 sp, .int .i64 xs, .bool xm] 35)
      exact ((Only.refl (fun _ => False) _).alloc _).obj (by simpa using this) id, by
      have := heap_box (w := (w.alloc (.cells #[.slice (some ⟨b, off, none⟩) n c, .int .i64 (many : Int)] 28)).alloc (.cells #[.int .i64 4, .int .i64 sn, .int .i64 sp, sv] 31)) (.cells #[.bool true, .int .i64 sn, .int .i64 sp, .int .i64 xs, .bool xm] 35) (.cells #[.slice none 0 0, .int .i64 0] 28)
      simpa using this, heap_alloc_new' _ _ _ (by simp)⟩)
  rw [hw1]
  simp only [hg, Nat.add_assoc, Nat.reduceAdd]
  clear hw1 hg
  have HAT : Hid (∀ wx, Same w1 wx → Calls Try.prog 32 #[hv (some ⟨b, off, none⟩) n c many, .int .i64 sn] wx fun e w' => e = .returned (.int .i64 (k : Int)) ∧ Same wx w') := Lib.hid (fun wx hx => (atC (some ⟨b, off, none⟩) n c many L sn wx ((HR.out.still HS1.out).still hx) (by omega)).mono (by
    rintro e w' ⟨r, rfl, hr, hs⟩
    rw [hq r hr]
    exact ⟨rfl, hs⟩))
  have a0_w1 : w1.cell? ⟨g, 0, none⟩ = some (.slice (some ⟨b, off, none⟩) n c) := block_cell (HB1.out).h0 rfl
  have a1_w1 : w1.cell? ⟨g, 1, none⟩ = some (.int .i64 (many : Int)) := block_cell (HB1.out).h0 rfl
  have b1_w1 : w1.cell? ⟨g + 1, 1, none⟩ = some (.int .i64 sn) := block_cell (HB1.out).h1 rfl
  have c1_w1 : w1.cell? ⟨g + 2, 1, none⟩ = some (.int .i64 sn) := block_cell (HB1.out).h2 rfl
  have c2_w1 : w1.cell? ⟨g + 2, 2, none⟩ = some (.int .i64 sp) := block_cell (HB1.out).h2 rfl
  go_upto_region 2 with fail
  go_wp2_with fail
  refine (HAT.out _ (by first | exact Only.refl _ _ | exact (Only.refl _ _).drew)).mono ?_
  rintro e w2 ⟨rfl, hs2⟩
  have HS2 : Hid (Same w1 w2) := Lib.hid (by first | exact hs2 | exact (Only.drew (Only.refl (fun _ => False) w1)).trans hs2 (fun _ _ h => h))
  have HB2 := Lib.hid (HB1.out.still HS2.out)
  clear hs2 HAT a0_w1 a1_w1 b1_w1 c1_w1 c2_w1
  have a0_w2 : w2.cell? ⟨g, 0, none⟩ = some (.slice (some ⟨b, off, none⟩) n c) := block_cell (HB2.out).h0 rfl
  have a1_w2 : w2.cell? ⟨g, 1, none⟩ = some (.int .i64 (many : Int)) := block_cell (HB2.out).h0 rfl
  have b0_w2 : w2.cell? ⟨g + 1, 0, none⟩ = some (.int .i64 4) := block_cell (HB2.out).h1 rfl
  have b2_w2 : w2.cell? ⟨g + 1, 2, none⟩ = some (.int .i64 sp) := block_cell (HB2.out).h1 rfl
  have c0_w2 : w2.cell? ⟨g + 2, 0, none⟩ = some (.bool true) := block_cell (HB2.out).h2 rfl
  have c1_w2 : w2.cell? ⟨g + 2, 1, none⟩ = some (.int .i64 sn) := block_cell (HB2.out).h2 rfl
  have c2_w2 : w2.cell? ⟨g + 2, 2, none⟩ = some (.int .i64 sp) := block_cell (HB2.out).h2 rfl
  have d0_w2 : w2.cell? ⟨g + 3, 0, none⟩ = some (.slice none 0 0) := block_cell (HB2.out).h3 rfl
  have d1_w2 : w2.cell? ⟨g + 3, 1, none⟩ = some (.int .i64 0) := block_cell (HB2.out).h3 rfl
  have f3_w2 : ∀ i, w2.frozen? ⟨g + 3, i, none⟩ = false := fun i => block_free (HB2.out).h3
  have lg_w2 : g + 3 < w2.heap.size := lt_of_heap (HB2.out).h3
  have HC2 : Hid (w2.cell? ⟨b, off + k * 2 + 1, none⟩ = some (.int .i64 e.p)) := Lib.hid (by
    obtain ⟨b', off', hbb, _, hc⟩ := (HR.out.still (HS1.out.trans HS2.out)).at enc_len (by omega)
    cases hbb
    exact hc k e HKK.out 1 _ rfl)
  have e1_w2 := HC2.out
  have hk1 : ¬ (k : Int) < 0 := by omega
  have hk2 : (0 : Int) ≤ (k : Int) := by omega
  have hk3 : (k : Int) < (n : Int) := by omega
  have hlt1 : ¬ e.p < sp := by omega
  have hlt2 : ¬ sp = e.p := by omega
  have hlt3 : (sp == e.p) = false := beq_false_of_ne hlt2
  go_upto_region 16 with fail
  go_quiet (fail)
  obtain ⟨wp, hwp⟩ : ∃ wp, w2.drewN nq = wp := ⟨_, rfl⟩
  have HSP : Hid (Same w1 wp) := Lib.hid (HS2.out.trans (by rw [← hwp]; exact (Only.refl _ w2).drewN _))
  rw [hwp]
  clear hwp
  have HBP := Lib.hid (HB1.out.still HSP.out)
  have a0_wp : wp.cell? ⟨g, 0, none⟩ = some (.slice (some ⟨b, off, none⟩) n c) := block_cell (HBP.out).h0 rfl
  have a1_wp : wp.cell? ⟨g, 1, none⟩ = some (.int .i64 (many : Int)) := block_cell (HBP.out).h0 rfl
  have b0_wp : wp.cell? ⟨g + 1, 0, none⟩ = some (.int .i64 4) := block_cell (HBP.out).h1 rfl
  have b1_wp : wp.cell? ⟨g + 1, 1, none⟩ = some (.int .i64 sn) := block_cell (HBP.out).h1 rfl
  have b2_wp : wp.cell? ⟨g + 1, 2, none⟩ = some (.int .i64 sp) := block_cell (HBP.out).h1 rfl
  have c0_wp : wp.cell? ⟨g + 2, 0, none⟩ = some (.bool true) := block_cell (HBP.out).h2 rfl
  have c1_wp : wp.cell? ⟨g + 2, 1, none⟩ = some (.int .i64 sn) := block_cell (HBP.out).h2 rfl
  have c2_wp : wp.cell? ⟨g + 2, 2, none⟩ = some (.int .i64 sp) := block_cell (HBP.out).h2 rfl
  have d0_wp : wp.cell? ⟨g + 3, 0, none⟩ = some (.slice none 0 0) := block_cell (HBP.out).h3 rfl
  have d1_wp : wp.cell? ⟨g + 3, 1, none⟩ = some (.int .i64 0) := block_cell (HBP.out).h3 rfl
  have f3_wp : ∀ i, wp.frozen? ⟨g + 3, i, none⟩ = false := fun i => block_free (HBP.out).h3
  have lg_wp : g + 3 < wp.heap.size := lt_of_heap (HBP.out).h3
  have e1_wp : wp.cell? ⟨b, off + k * 2 + 1, none⟩ = some (.int .i64 e.p) := by
    obtain ⟨b', off', hbb, _, hc⟩ := (HR.out.still (HS1.out.trans HSP.out)).at enc_len (by omega)
    cases hbb
    exact hc k e HKK.out 1 _ rfl
  clear e1_w2 a0_w2 a1_w2 b0_w2 b2_w2 c0_w2 c1_w2 c2_w2 d0_w2 d1_w2 f3_w2 lg_w2 HB2 HS2
  go_upto_region 18 with fail
  go_quiet (fail)
  obtain ⟨wq, hwp⟩ : ∃ wq, wp.drewN nq = wq := ⟨_, rfl⟩
  have HSQ : Hid (Same w1 wq) := Lib.hid (HSP.out.trans (by rw [← hwp]; exact (Only.refl _ wp).drewN _))
  rw [hwp]
  clear hwp
  have HBQ := Lib.hid (HB1.out.still HSQ.out)
  have a0_wq : wq.cell? ⟨g, 0, none⟩ = some (.slice (some ⟨b, off, none⟩) n c) := block_cell (HBQ.out).h0 rfl
  have a1_wq : wq.cell? ⟨g, 1, none⟩ = some (.int .i64 (many : Int)) := block_cell (HBQ.out).h0 rfl
  have b0_wq : wq.cell? ⟨g + 1, 0, none⟩ = some (.int .i64 4) := block_cell (HBQ.out).h1 rfl
  have b1_wq : wq.cell? ⟨g + 1, 1, none⟩ = some (.int .i64 sn) := block_cell (HBQ.out).h1 rfl
  have b2_wq : wq.cell? ⟨g + 1, 2, none⟩ = some (.int .i64 sp) := block_cell (HBQ.out).h1 rfl
  have c0_wq : wq.cell? ⟨g + 2, 0, none⟩ = some (.bool true) := block_cell (HBQ.out).h2 rfl
  have c1_wq : wq.cell? ⟨g + 2, 1, none⟩ = some (.int .i64 sn) := block_cell (HBQ.out).h2 rfl
  have c2_wq : wq.cell? ⟨g + 2, 2, none⟩ = some (.int .i64 sp) := block_cell (HBQ.out).h2 rfl
  have d0_wq : wq.cell? ⟨g + 3, 0, none⟩ = some (.slice none 0 0) := block_cell (HBQ.out).h3 rfl
  have d1_wq : wq.cell? ⟨g + 3, 1, none⟩ = some (.int .i64 0) := block_cell (HBQ.out).h3 rfl
  have f3_wq : ∀ i, wq.frozen? ⟨g + 3, i, none⟩ = false := fun i => block_free (HBQ.out).h3
  have lg_wq : g + 3 < wq.heap.size := lt_of_heap (HBQ.out).h3
  have e1_wq : wq.cell? ⟨b, off + k * 2 + 1, none⟩ = some (.int .i64 e.p) := by
    obtain ⟨b', off', hbb, _, hc⟩ := (HR.out.still (HS1.out.trans HSQ.out)).at enc_len (by omega)
    cases hbb
    exact hc k e HKK.out 1 _ rfl
  clear e1_wp a0_wp a1_wp b0_wp b2_wp c0_wp c1_wp c2_wp d0_wp d1_wp f3_wp lg_wp HBP HSP
  have HW : Hid (∀ wx, Same wq wx → Calls Try.prog 36 #[hv (some ⟨b, off, none⟩) n c many, .int .i64 (k : Int), .int .i64 sp] wx (LwP L n many k ⟨e.n, sp⟩ wx)) := Lib.hid (fun wx hx => lowerC (some ⟨b, off, none⟩) n c many L k e sp wx ((HR.out.still (HS1.out.trans HSQ.out)).still hx) (by omega) HKK.out)
  go_upto_region 20 with fail
  go_cut [7] (fun v wx => v = .bool true ∧ ∃ (a' : Option Addr) (c' : Nat) (w4 : World), Hid (RE w4 a' (n) c' (L.set k ⟨e.n, sp⟩) ∧ Same wq w4 ∧ Only (fun k => k = g + 3) w4 wx ∧ wx.heap[g + 3]? = some (.cells #[.slice a' (n) c', .int .i64 (many : Int)] 28 (0, 0)) ∧ ∀ j, At a' j → wq.heap.size ≤ j))
  case first =>
    clear e0 hsn e1_wq HC2 hlt hlt1 hlt2 hlt3 HR HS1 HB1 HSQ hbd HG hn hm hq
    have HSX : Hid (∀ wx, Same wq wx → (wx.cell? ⟨g, 0, none⟩ = some (.slice (some ⟨b, off, none⟩) n c) ∧ wx.cell? ⟨g, 1, none⟩ = some (.int .i64 (many : Int)) ∧ wx.cell? ⟨g + 1, 2, none⟩ = some (.int .i64 sp) ∧ wx.cell? ⟨g + 2, 0, none⟩ = some (.bool true) ∧ wx.cell? ⟨g + 2, 1, none⟩ = some (.int .i64 sn) ∧ wx.cell? ⟨g + 2, 2, none⟩ = some (.int .i64 sp) ∧ wx.cell? ⟨g + 1, 1, none⟩ = some (.int .i64 sn))) := Lib.hid (fun wx hx => by
      have hb := HBQ.out.still hx
      exact ⟨block_cell hb.h0 rfl, block_cell hb.h0 rfl, block_cell hb.h1 rfl, block_cell hb.h2 rfl, block_cell hb.h2 rfl, block_cell hb.h2 rfl, block_cell hb.h1 rfl⟩)
    have HSY : Hid (∀ wx, Same wq wx → ∀ v v', (((wx.setCell ⟨g + 3, 0, none⟩ v).setCell ⟨g + 3, 1, none⟩ v').cell? ⟨g, 0, none⟩ = some (.slice (some ⟨b, off, none⟩) n c) ∧ ((wx.setCell ⟨g + 3, 0, none⟩ v).setCell ⟨g + 3, 1, none⟩ v').cell? ⟨g, 1, none⟩ = some (.int .i64 (many : Int)) ∧ ((wx.setCell ⟨g + 3, 0, none⟩ v).setCell ⟨g + 3, 1, none⟩ v').cell? ⟨g + 1, 2, none⟩ = some (.int .i64 sp) ∧ ((wx.setCell ⟨g + 3, 0, none⟩ v).setCell ⟨g + 3, 1, none⟩ v').cell? ⟨g + 2, 0, none⟩ = some (.bool true) ∧ ((wx.setCell ⟨g + 3, 0, none⟩ v).setCell ⟨g + 3, 1, none⟩ v').cell? ⟨g + 2, 1, none⟩ = some (.int .i64 sn) ∧ ((wx.setCell ⟨g + 3, 0, none⟩ v).setCell ⟨g + 3, 1, none⟩ v').cell? ⟨g + 2, 2, none⟩ = some (.int .i64 sp) ∧ ((wx.setCell ⟨g + 3, 0, none⟩ v).setCell ⟨g + 3, 1, none⟩ v').cell? ⟨g + 1, 1, none⟩ = some (.int .i64 sn))) := Lib.hid (fun wx hx v v' => by
      have hb := HBQ.out.still hx
      have ho : Only (fun k => k = g + 3) wx ((wx.setCell ⟨g + 3, 0, none⟩ v).setCell ⟨g + 3, 1, none⟩ v') := Only.setCell (Only.setCell (Only.refl (fun k => k = g + 3) wx) ⟨g + 3, 0, none⟩ v (fun _ => rfl)) ⟨g + 3, 1, none⟩ v' (fun _ => rfl)
      exact ⟨block_cell (ho.obj hb.h0 (by omega)) rfl, block_cell (ho.obj hb.h0 (by omega)) rfl, block_cell (ho.obj hb.h1 (by omega)) rfl, block_cell (ho.obj hb.h2 (by omega)) rfl, block_cell (ho.obj hb.h2 (by omega)) rfl, block_cell (ho.obj hb.h2 (by omega)) rfl, block_cell (ho.obj hb.h1 (by omega)) rfl⟩)
    go_region_held3 (fun w' => w'.cell? ⟨g, 0, none⟩ = some (.slice (some ⟨b, off, none⟩) n c) ∧ w'.cell? ⟨g, 1, none⟩ = some (.int .i64 (many : Int)) ∧ w'.cell? ⟨g + 1, 2, none⟩ = some (.int .i64 sp) ∧ w'.cell? ⟨g + 2, 0, none⟩ = some (.bool true) ∧ w'.cell? ⟨g + 2, 1, none⟩ = some (.int .i64 sn) ∧ w'.cell? ⟨g + 2, 2, none⟩ = some (.int .i64 sp) ∧ w'.cell? ⟨g + 1, 1, none⟩ = some (.int .i64 sn))
      (first
      | (with_reducible exact HSX.out _ (Only.drew (Only.refl _ _)))
      | (with_reducible exact HSX.out _ HS4.out.2.1)
      | (with_reducible exact HSY.out _ HS4.out.2.1 _ _)
      | fail)
      (first
      | (go_at_call 36; (with_reducible refine (HW.out _ (Only.drew (Only.refl _ _))).mono ?_); rintro e' w4 ⟨a4, c4, rfl, hr4, hs4, hn4⟩; have HS4 : Hid (RE w4 a4 (n) c4 (L.set k ⟨e.n, sp⟩) ∧ Same wq w4 ∧ ∀ j, At a4 j → wq.heap.size ≤ j) := Lib.hid ⟨hr4, (Only.drew (Only.refl (fun _ => False) wq)).trans hs4 (fun _ _ h => h), hn4⟩; have HB4 := Lib.hid (HBQ.out.still HS4.out.2.1); clear hr4 hs4 hn4; have d0_w4 : w4.cell? ⟨g + 3, 0, none⟩ = some (.slice none 0 0) := block_cell (HB4.out).h3 rfl; have d1_w4 : w4.cell? ⟨g + 3, 1, none⟩ = some (.int .i64 0) := block_cell (HB4.out).h3 rfl; have f3_w4 : ∀ i, w4.frozen? ⟨g + 3, i, none⟩ = false := fun i => block_free (HB4.out).h3; have lg_w4 : g + 3 < w4.heap.size := lt_of_heap (HB4.out).h3)
      | fail)
    all_goals
      go_wp2_with fail
      go_meet
      refine ⟨rfl, a4, c4, w4, Lib.hid ⟨HS4.out.1, HS4.out.2.1, ?_, ?_, HS4.out.2.2⟩⟩
      · exact Only.setCell (Only.setCell (Only.refl (fun k => k = g + 3) w4) ⟨g + 3, 0, none⟩ _ (fun _ => rfl)) ⟨g + 3, 1, none⟩ _ (fun _ => rfl)
      · exact setCell_heap (setCell_heap HB4.out.h3 0 _) 1 _
  case rest =>
    obtain ⟨rfl, a4, c4, w4, HF⟩ := hcut
    obtain ⟨w5, hw5⟩ : ∃ w5, w5 = wc := ⟨_, rfl⟩
    rw [← hw5] at HF ⊢
    clear hw5
    have d0 : w5.cell? ⟨g + 3, 0, none⟩ = some (.slice a4 (n) c4) := block_cell HF.out.2.2.2.1 rfl
    have d1 : w5.cell? ⟨g + 3, 1, none⟩ = some (.int .i64 (many : Int)) := block_cell HF.out.2.2.2.1 rfl
    go_wp2_with fail
    refine bodyPost_ret (v := .tuple #[.agg #[.slice a4 (n) c4, .int .i64 (many : Int)], .bool true]) ?_ rfl ?_
    · simp [results, Try.results19, go_sem, d0, d1]
    exact ⟨a4, n, c4, rfl, HF.out.1.keep HF.out.2.2.1 (fun j hj e => by have := HF.out.2.2.2.2 j hj; have e' : j = g + 3 := e; omega), Only.trans (S := fun _ => False) (HS1.out.trans (HSQ.out.trans HF.out.2.1)) HF.out.2.2.1 (fun k hk e => by have := HG.out; have e' : k = g + 3 := e; omega), fun j hj => .inr (by have := HF.out.2.2.2.2 j hj; have := (HS1.out.trans HSQ.out).size; omega)⟩
end Go.Proofs.Ytpddddjfjmipfaa.fh

/-
  does of spec: the least goes
-/
import Derived.Test.YtpddddjfjmipfaaFhDoes8
namespace Go.Proofs.Ytpddddjfjmipfaa.fh
open Go.RowKit Go.Proofs.Ytpddddjfjmipfaa.base Go.Proofs.Ytpddddjfjmipfaa.heap Go.Proofs.Ytpddddjfjmipfaa.rows Go.Proofs.Ytpddddjfjmipfaa.flt
set_option linter.unusedVariables false
set_option maxRecDepth 100000 in
set_option maxHeartbeats 6400000 in
theorem does3m (a : Option Addr) (n c many : Nat) (L : List En) (sn sp : Int) (sv : Value) (hsv : sv.cells = #[sv]) (xs : Int) (xm : Bool) (w : World) (h : RE w a n c L) (hn : n ≤ 10000) (hm : many ≤ 10000) (k : Nat) (e : En) (hk : L[k]? = some e) (hu : ∀ r', AtI L (e.n : Int) r' → r' = (k : Int)) (hl : ∀ x ∈ L, e.p ≤ x.p) (hat : ∃ r, ∀ r', AtI L sn r' → r' = r) : Calls Try.prog 19 #[hv a n c many, .agg #[.int .i64 3, .int .i64 sn, .int .i64 sp, sv], .agg #[.bool true, .int .i64 (e.n : Int), .int .i64 e.p, .int .i64 xs, .bool xm]] w (DoP a (L.eraseIdx k) many w) := by
  have HR := Lib.hid h
  have hbd := h.bound
  clear h
  obtain ⟨q, hq⟩ := hat
  have e0 : ((e.n : Int) == -1) = false := beq_false_of_ne (by omega)
  obtain ⟨b, off, rfl, hb, _⟩ := HR.out.at enc_len (by have := (List.getElem?_eq_some_iff.1 hk).1; have := HR.out.2; omega)
  have HKK := Lib.hid hk
  have hkn : k < n := by have := (List.getElem?_eq_some_iff.1 hk).1; have := HR.out.2; omega
  clear hk hb
  go_enter Try.func19, Try.ntmps19
  go_upto_region 1 with fail
  obtain ⟨w1, hw1⟩ : ∃ w1, ((((w.alloc (.cells #[.slice (some ⟨b, off, none⟩) n c, .int .i64 (many : Int)] 28)).alloc (.cells #[.int .i64 3, .int .i64 sn, .int .i64 sp, sv] 31)).alloc (.cells #[.bool true, .int .i64 (e.n : Int), .int .i64 e.p, .int .i64 xs, .bool xm] 35)).alloc (.cells #[.slice none 0 0, .int .i64 0] 28)) = w1 := ⟨_, rfl⟩
  obtain ⟨g, hg⟩ : ∃ g, w.heap.size = g := ⟨_, rfl⟩
  have HG := Lib.hid hg
  have HS1 : Hid (Same w w1) := Lib.hid (by rw [← hw1]; exact ((((Only.refl _ _).alloc _).alloc _).alloc _).alloc _)
  have HB1 : Hid (Bx w1 g (some ⟨b, off, none⟩) n c many 3 sn sp sv true (e.n : Int) e.p xs xm) := Lib.hid (by
    have e1 := hw1
    rw [← e1, ← hg]
    exact ⟨((Only.refl (fun _ => False) _).alloc _).alloc _ |>.obj (heap_box _ _) id, by
      have := heap_box (w := w.alloc (.cells #[.slice (some ⟨b, off, none⟩) n c, .int .i64 (many : Int)] 28)) (.cells #[.int .i64 3, .int .i64 sn, .int .i64 sp, sv] 31) (.cells #[.bool true, .int .i64 (e.n : Int), .int .i64 e.p, .int .i64 xs, .bool xm] 35)
      exact ((Only.refl (fun _ => False) _).alloc _).obj (by simpa using this) id, by
      have := heap_box (w := (w.alloc (.cells #[.slice (some ⟨b, off, none⟩) n c, .int .i64 (many : Int)] 28)).alloc (.cells #[.int .i64 3, .int .i64 sn, .int .i64 sp, sv] 31)) (.cells #[.bool true, .int .i64 (e.n : Int), .int .i64 e.p, .int .i64 xs, .bool xm] 35) (.cells #[.slice none 0 0, .int .i64 0] 28)
      simpa using this, heap_alloc_new' _ _ _ (by simp)⟩)
  rw [hw1]
  simp only [hg, Nat.add_assoc, Nat.reduceAdd]
  clear hw1 hg
  have HAT : Hid (∀ wx, Same w1 wx → Calls Try.prog 32 #[hv (some ⟨b, off, none⟩) n c many, .int .i64 sn] wx fun e w' => e = .returned (.int .i64 q) ∧ Same wx w') := Lib.hid (fun wx hx => (atC (some ⟨b, off, none⟩) n c many L sn wx ((HR.out.still HS1.out).still hx) (by omega)).mono (by
    rintro e w' ⟨r, rfl, hr, hs⟩
    rw [hq r hr]
    exact ⟨rfl, hs⟩))
  have a0_w1 : w1.cell? ⟨g, 0, none⟩ = some (.slice (some ⟨b, off, none⟩) n c) := block_cell (HB1.out).h0 rfl
  have a1_w1 : w1.cell? ⟨g, 1, none⟩ = some (.int .i64 (many : Int)) := block_cell (HB1.out).h0 rfl
  have b1_w1 : w1.cell? ⟨g + 1, 1, none⟩ = some (.int .i64 sn) := block_cell (HB1.out).h1 rfl
  have c1_w1 : w1.cell? ⟨g + 2, 1, none⟩ = some (.int .i64 (e.n : Int)) := block_cell (HB1.out).h2 rfl
  have c2_w1 : w1.cell? ⟨g + 2, 2, none⟩ = some (.int .i64 e.p) := block_cell (HB1.out).h2 rfl
  go_upto_region 2 with fail
  go_wp2_with fail
  refine (HAT.out _ (by first | exact Only.refl _ _ | exact (Only.refl _ _).drew)).mono ?_
  rintro e w2 ⟨rfl, hs2⟩
  have HS2 : Hid (Same w1 w2) := Lib.hid (by first | exact hs2 | exact (Only.drew (Only.refl (fun _ => False) w1)).trans hs2 (fun _ _ h => h))
  have HB2 := Lib.hid (HB1.out.still HS2.out)
  clear hs2 HAT a0_w1 a1_w1 b1_w1 c1_w1 c2_w1
  have a0_w2 : w2.cell? ⟨g, 0, none⟩ = some (.slice (some ⟨b, off, none⟩) n c) := block_cell (HB2.out).h0 rfl
  have a1_w2 : w2.cell? ⟨g, 1, none⟩ = some (.int .i64 (many : Int)) := block_cell (HB2.out).h0 rfl
  have b0_w2 : w2.cell? ⟨g + 1, 0, none⟩ = some (.int .i64 3) := block_cell (HB2.out).h1 rfl
  have b2_w2 : w2.cell? ⟨g + 1, 2, none⟩ = some (.int .i64 sp) := block_cell (HB2.out).h1 rfl
  have c0_w2 : w2.cell? ⟨g + 2, 0, none⟩ = some (.bool true) := block_cell (HB2.out).h2 rfl
  have c1_w2 : w2.cell? ⟨g + 2, 1, none⟩ = some (.int .i64 (e.n : Int)) := block_cell (HB2.out).h2 rfl
  have c2_w2 : w2.cell? ⟨g + 2, 2, none⟩ = some (.int .i64 e.p) := block_cell (HB2.out).h2 rfl
  have d0_w2 : w2.cell? ⟨g + 3, 0, none⟩ = some (.slice none 0 0) := block_cell (HB2.out).h3 rfl
  have d1_w2 : w2.cell? ⟨g + 3, 1, none⟩ = some (.int .i64 0) := block_cell (HB2.out).h3 rfl
  have f3_w2 : ∀ i, w2.frozen? ⟨g + 3, i, none⟩ = false := fun i => block_free (HB2.out).h3
  have lg_w2 : g + 3 < w2.heap.size := lt_of_heap (HB2.out).h3
  have e3 : ((n : Int) == 0) = false := beq_false_of_ne (by omega)
  have HL : Hid (∀ wx, Same w2 wx → Calls Try.prog 34 #[hv (some ⟨b, off, none⟩) n c many, .int .i64 (e.n : Int), .int .i64 e.p] wx (TrP wx)) := Lib.hid (fun wx hx => leastC (some ⟨b, off, none⟩) n c many L e.n e.p k wx ((HR.out.still (HS1.out.trans HS2.out)).still hx) (by omega) HKK.out hu hl)
  go_upto_region 10 with fail
  go_wp2_with fail
  refine (HL.out _ (Only.refl _ _)).mono ?_
  rintro e' w3 ⟨rfl, hs3⟩
  have HS3 : Hid (Same w1 w3) := Lib.hid (HS2.out.trans hs3)
  have HB3 := Lib.hid (HB1.out.still HS3.out)
  clear hs3 HL HB2 HS2 a0_w2 a1_w2 b0_w2 b2_w2 c0_w2 c1_w2 c2_w2 d0_w2 d1_w2 f3_w2 lg_w2
  have a0_w3 : w3.cell? ⟨g, 0, none⟩ = some (.slice (some ⟨b, off, none⟩) n c) := block_cell (HB3.out).h0 rfl
  have a1_w3 : w3.cell? ⟨g, 1, none⟩ = some (.int .i64 (many : Int)) := block_cell (HB3.out).h0 rfl
  have b0_w3 : w3.cell? ⟨g + 1, 0, none⟩ = some (.int .i64 3) := block_cell (HB3.out).h1 rfl
  have b2_w3 : w3.cell? ⟨g + 1, 2, none⟩ = some (.int .i64 sp) := block_cell (HB3.out).h1 rfl
  have c0_w3 : w3.cell? ⟨g + 2, 0, none⟩ = some (.bool true) := block_cell (HB3.out).h2 rfl
  have c1_w3 : w3.cell? ⟨g + 2, 1, none⟩ = some (.int .i64 (e.n : Int)) := block_cell (HB3.out).h2 rfl
  have c2_w3 : w3.cell? ⟨g + 2, 2, none⟩ = some (.int .i64 e.p) := block_cell (HB3.out).h2 rfl
  have d0_w3 : w3.cell? ⟨g + 3, 0, none⟩ = some (.slice none 0 0) := block_cell (HB3.out).h3 rfl
  have d1_w3 : w3.cell? ⟨g + 3, 1, none⟩ = some (.int .i64 0) := block_cell (HB3.out).h3 rfl
  have f3_w3 : ∀ i, w3.frozen? ⟨g + 3, i, none⟩ = false := fun i => block_free (HB3.out).h3
  have lg_w3 : g + 3 < w3.heap.size := lt_of_heap (HB3.out).h3
  have f0_w3 : ∀ i, w3.frozen? ⟨g, i, none⟩ = false := fun i => block_free (HB3.out).h0
  have HA : Hid (∀ wx, Same w3 wx → Calls Try.prog 32 #[hv (some ⟨b, off, none⟩) n c many, .int .i64 (e.n : Int)] wx fun e w' => e = .returned (.int .i64 (k : Int)) ∧ Same wx w') := Lib.hid (fun wx hx => (atC (some ⟨b, off, none⟩) n c many L e.n wx ((HR.out.still (HS1.out.trans HS3.out)).still hx) (by omega)).mono (by
    rintro e w' ⟨r, rfl, hr, hs⟩
    rw [hu r hr]
    exact ⟨rfl, hs⟩))
  have HW : Hid (∀ wx, Same w3 wx → Calls Try.prog 35 #[hv (some ⟨b, off, none⟩) n c many, .int .i64 (k : Int)] wx (OutP L n many k wx)) := Lib.hid (fun wx hx => withoutC (some ⟨b, off, none⟩) n c many L k wx ((HR.out.still (HS1.out.trans HS3.out)).still hx) (by omega) hkn)
  go_upto_region 13 with fail
  go_cut [] (fun wx => ∃ (a' : Option Addr) (c' : Nat) (w4 : World), Hid (RE w4 a' (n - 1) c' (L.eraseIdx k) ∧ Same w3 w4 ∧ Only (fun k => k = g) w4 wx ∧ wx.heap[g]? = some (.cells #[.slice a' (n - 1) c', .int .i64 (many : Int)] 28 (0, 0)) ∧ ∀ j, At a' j → w3.heap.size ≤ j))
  case first =>
    clear HR HS1 HB1 HS3 hbd HG hn hm hq hu hl e0 e3 HKK hkn b0_w3 b2_w3 c0_w3 c2_w3 d0_w3 d1_w3 f3_w3 lg_w3
    go_region_law (first
      | (go_simp; go_at_call 32; refine (HA.out _ (Only.drew (Only.refl _ _))).mono ?_; rintro e' w4 ⟨rfl, hs4⟩; have HS4 : Hid (Same w3 w4) := Lib.hid ((Only.drew (Only.refl (fun _ => False) w3)).trans hs4 (fun _ _ h => h)); clear hs4; have a0_w4 : w4.cell? ⟨g, 0, none⟩ = some (.slice (some ⟨b, off, none⟩) n c) := block_cell (HB3.out.still HS4.out).h0 rfl; have a1_w4 : w4.cell? ⟨g, 1, none⟩ = some (.int .i64 (many : Int)) := block_cell (HB3.out.still HS4.out).h0 rfl)
      | (go_simp; go_at_call 35; refine (HW.out _ HS4.out).mono ?_; rintro e' w5 ⟨a5, c5, rfl, hr5, hs5, hn5⟩; have HS5 : Hid (RE w5 a5 (n - 1) c5 (L.eraseIdx k) ∧ Same w3 w5 ∧ ∀ j, At a5 j → w3.heap.size ≤ j) := Lib.hid ⟨hr5, HS4.out.trans hs5, fun j hj => Nat.le_trans HS4.out.size (hn5 j hj)⟩; clear hr5 hs5 hn5; have a0_w5 : w5.cell? ⟨g, 0, none⟩ = some (.slice (some ⟨b, off, none⟩) n c) := block_cell (HB3.out.still HS5.out.2.1).h0 rfl; have a1_w5 : w5.cell? ⟨g, 1, none⟩ = some (.int .i64 (many : Int)) := block_cell (HB3.out.still HS5.out.2.1).h0 rfl; have f0_w5 : ∀ i, w5.frozen? ⟨g, i, none⟩ = false := fun i => block_free (HB3.out.still HS5.out.2.1).h0; have lg_w5 : g < w5.heap.size := lt_of_heap (HB3.out.still HS5.out.2.1).h0))
    all_goals
      go_wp2_with fail
      go_meet
      refine ⟨a5, c5, w5, Lib.hid ⟨HS5.out.1, HS5.out.2.1, ?_, ?_, HS5.out.2.2⟩⟩
      · exact Only.setCell (Only.setCell (Only.refl (fun k => k = g) w5) ⟨g, 0, none⟩ _ (fun _ => rfl)) ⟨g, 1, none⟩ _ (fun _ => rfl)
      · exact setCell_heap (setCell_heap (HB3.out.still HS5.out.2.1).h0 0 _) 1 _
  case rest =>
    obtain ⟨a4, c4, w4, HF⟩ := hcut
    obtain ⟨w5, hw5⟩ : ∃ w5, w5 = wc := ⟨_, rfl⟩
    rw [← hw5] at HF ⊢
    clear hw5
    have d0 : w5.cell? ⟨g, 0, none⟩ = some (.slice a4 (n - 1) c4) := block_cell HF.out.2.2.2.1 rfl
    have d1 : w5.cell? ⟨g, 1, none⟩ = some (.int .i64 (many : Int)) := block_cell HF.out.2.2.2.1 rfl
    have HH3 : Hid (w5.heap[g + 3]? = some (.cells #[.slice none 0 0, .int .i64 0] 28 (0, 0))) := Lib.hid (HF.out.2.2.1.obj (HB3.out.still HF.out.2.1).h3 (by omega))
    have d2 : ∀ i, w5.frozen? ⟨g + 3, i, none⟩ = false := fun i => block_free HH3.out
    have d3 : w5.cell? ⟨g + 3, 0, none⟩ = some (.slice none 0 0) := block_cell HH3.out rfl
    have d4 : w5.cell? ⟨g + 3, 1, none⟩ = some (.int .i64 0) := block_cell HH3.out rfl
    have d5 : g + 3 < w5.heap.size := lt_of_heap HH3.out
    go_wp2_with fail
    obtain ⟨w6, hw6⟩ : ∃ w6, ((w5.setCell ⟨g + 3, 0, none⟩ (.slice a4 (n - 1) c4)).setCell ⟨g + 3, 1, none⟩ (.int .i64 (many : Int))) = w6 := ⟨_, rfl⟩
    have ho6 : Only (fun k => k = g + 3) w5 w6 := by rw [← hw6]; exact Only.setCell (Only.setCell (Only.refl (fun k => k = g + 3) w5) ⟨g + 3, 0, none⟩ _ (fun _ => rfl)) ⟨g + 3, 1, none⟩ _ (fun _ => rfl)
    have hh6 : w6.heap[g + 3]? = some (.cells #[.slice a4 (n - 1) c4, .int .i64 (many : Int)] 28 (0, 0)) := by rw [← hw6]; exact setCell_heap (setCell_heap HH3.out 0 _) 1 _
    rw [hw6]
    have u0 : w6.cell? ⟨g + 3, 0, none⟩ = some (.slice a4 (n - 1) c4) := block_cell hh6 rfl
    have u1 : w6.cell? ⟨g + 3, 1, none⟩ = some (.int .i64 (many : Int)) := block_cell hh6 rfl
    have hg0 := HG.out
    have hz1 := (HS1.out.trans HS3.out).size
    refine bodyPost_ret (v := .tuple #[.agg #[.slice a4 (n - 1) c4, .int .i64 (many : Int)], .bool true]) ?_ rfl ?_
    · exact res_does rfl rfl u0 u1
    refine ⟨a4, n - 1, c4, rfl, ?_, ?_, fun j hj => .inr (by have := HF.out.2.2.2.2 j hj; omega)⟩
    · exact (HF.out.1.keep HF.out.2.2.1 (fun j hj e => by have := HF.out.2.2.2.2 j hj; have e' : j = g := e; have := lt_of_heap HB3.out.h0; omega)).keep ho6 (fun j hj e => by have := HF.out.2.2.2.2 j hj; have e' : j = g + 3 := e; have := lt_of_heap HB3.out.h3; omega)
    · exact Only.trans (S := fun _ => False) (Only.trans (S := fun _ => False) (HS1.out.trans (HS3.out.trans HF.out.2.1)) HF.out.2.2.1 (fun k hk e => by have e' : k = g := e; omega)) ho6 (fun k hk e => by have e' : k = g + 3 := e; omega)
end Go.Proofs.Ytpddddjfjmipfaa.fh

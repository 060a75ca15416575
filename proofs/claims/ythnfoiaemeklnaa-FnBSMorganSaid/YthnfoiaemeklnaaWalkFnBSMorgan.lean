/-
  FnBSMorgan: the walk. The complement of a union is the intersection of the complements; the union of the complements is all bits but those of the intersection.
-/
import Derived.Test.YthnfoiaemeklnaaBsMor
namespace Go.Proofs.Ythnfoiaemeklnaa.walkFnBSMorgan
open Go.RowKit Go.Proofs.Ythnfoiaemeklnaa.base Go.Proofs.Ythnfoiaemeklnaa.heap Go.Proofs.Ythnfoiaemeklnaa.bit Go.Proofs.Ythnfoiaemeklnaa.bs
set_option linter.unusedVariables false
set_option maxRecDepth 100000 in
set_option maxHeartbeats 16000000 in
theorem main (n n' : Nat) (a a' : Option Addr) (m cap m' cap' : Nat) (zs zs' : List Int) (w : World) (hr : IsRow .u64 w a m cap zs) (hm : m ≤ 2147483647) (hr' : IsRow .u64 w a' m' cap' zs') (hm' : m' ≤ 2147483647) :
    Calls Try.prog 8 #[.agg #[.int .u64 (n : Int), .slice a m cap], .agg #[.int .u64 (n' : Int), .slice a' m' cap']] w fun e w' => e = .returned (.bool true) ∧ Below w.heap.size w w' := by
  have HRow := Lib.hid hr
  have HRow' := Lib.hid hr'
  clear hr hr'
  go_enter Try.func8, Try.ntmps8
  go_wp2_with fail
  obtain ⟨W, hW⟩ : ∃ W, W = (w.alloc (.cells #[.int .u64 (n : Int), .slice a m cap] 25)).alloc (.cells #[.int .u64 (n' : Int), .slice a' m' cap'] 25) := ⟨_, rfl⟩
  have hS : Same w W := by rw [hW]; exact ((Only.refl _ w).alloc _).alloc _
  have hA : W.heap[w.heap.size]? = some (.cells #[.int .u64 (n : Int), .slice a m cap] 25 (0, 0)) := by
    rw [hW, Below.heap_alloc _ _ _ (by simp)]; exact heap_alloc_new _ _
  have hB : W.heap[w.heap.size + 1]? = some (.cells #[.int .u64 (n' : Int), .slice a' m' cap'] 25 (0, 0)) := by
    rw [hW]; exact heap_alloc_new' _ _ _ (by simp)
  rw [← hW]
  have HK : Hid (∀ wx, Same W wx → wx.cell? ⟨w.heap.size, 0, none⟩ = some (.int .u64 (n : Int)) ∧ wx.cell? ⟨w.heap.size, 1, none⟩ = some (.slice a m cap) ∧ wx.cell? ⟨w.heap.size + 1, 0, none⟩ = some (.int .u64 (n' : Int)) ∧ wx.cell? ⟨w.heap.size + 1, 1, none⟩ = some (.slice a' m' cap')) := Lib.hid (fun wx hx =>
    ⟨block_cell (still hx hA) rfl, block_cell (still hx hA) rfl, block_cell (still hx hB) rfl, block_cell (still hx hB) rfl⟩)
  have HF : Hid (∀ wx, Same W wx → Calls Try.prog 11 #[.agg #[.int .u64 (n : Int), .slice a m cap]] wx (FV wx (.bool true))) := Lib.hid (fun wx hx => fv (Only.refl _ _) (fits_yes _ _ _ _ _ hm))
  have HF' : Hid (∀ wx, Same W wx → Calls Try.prog 11 #[.agg #[.int .u64 (n' : Int), .slice a' m' cap']] wx (FV wx (.bool true))) := Lib.hid (fun wx hx => fv (Only.refl _ _) (fits_yes _ _ _ _ _ hm'))
  have HS := Lib.hid hS
  have HWS : Hid (w.heap.size + 1 < W.heap.size) := Lib.hid (lt_of_heap hB)
  clear hW hA hB
  refine (HF.out W (Only.refl _ _)).mono ?_
  rintro e w1 ⟨rfl, hO1⟩
  obtain ⟨d0, d1, e0, e1⟩ := HK.out w1 hO1
  go_wp2_with fail
  refine (HF'.out w1 hO1).mono ?_
  rintro e w2 ⟨rfl, hO2⟩
  have hO2 := Same.trans hO1 hO2
  clear d0 d1 e0 e1 hO1
  obtain ⟨d0, d1, e0, e1⟩ := HK.out w2 hO2
  have HO2 := Lib.hid hO2
  clear hO2 hS
  go_wp2_with fail
  refine (bsBits n a m cap zs w2 (IsRow.keep HRow.out (Same.trans HS.out HO2.out)) hm).mono ?_
  rintro e w3 ⟨b, hb, a3, m3, cap3, rfl, hu3, hO3, hf3⟩
  have hb4 : b.length ≤ 400 := by omega
  have HO3 : Hid (Same W w3) := Lib.hid (Same.trans HO2.out hO3)
  have HU3 := Lib.hid hu3
  have HF3 : Hid (∀ j, At a3 j → j < w3.heap.size) := Lib.hid (fun j hj => (hf3 j hj).2)
  clear d0 d1 e0 e1 hb hu3 hO3 hf3
  have hsz : w.heap.size + 1 < w3.heap.size := Nat.lt_of_lt_of_le HWS.out HO3.out.size
  obtain ⟨d0, d1, e0, e1⟩ := HK.out w3 HO3.out
  obtain ⟨L, hL⟩ : ∃ L, b.length = L := ⟨_, rfl⟩
  have HL := Lib.hid hL
  rw [hL] at hb4 ⊢
  clear hL
  go_wp2_with fail
  obtain ⟨V3, hV3, hS3, hB3, hk3⟩ := newBlock w3 #[.int .u64 (L : Int), .slice a3 m3 cap3] 25
  rw [← hV3]
  have HO4 : Hid (Same W V3) := Lib.hid (Same.trans HO3.out hS3)
  have HU4 : Hid (RU V3 a3 m3 cap3 (ones b)) := Lib.hid (HU3.out.keep hS3 (fun _ _ => id))
  have HB3 := Lib.hid hB3
  have HA3 : Hid (∀ j, At a3 j → j < w3.heap.size) := Lib.hid HF3.out
  clear hV3 hS3 hB3 hk3 d0 d1 e0 e1 HU3
  refine (bsBits L a' m' cap' zs' V3 (IsRow.keep HRow'.out (Same.trans HS.out HO4.out)) hm').mono ?_
  rintro e w4 ⟨b', hb', a4, m4, cap4, rfl, hu4, hO4, hf4⟩
  have hL' : b'.length = L := by omega
  rw [hL']
  have HL' := Lib.hid hL'
  have hc4 : w4.cell? ⟨w3.heap.size, 0, none⟩ = some (.int .u64 (L : Int)) ∧ w4.cell? ⟨w3.heap.size, 1, none⟩ = some (.slice a3 m3 cap3) := ⟨block_cell (still hO4 HB3.out) rfl, block_cell (still hO4 HB3.out) rfl⟩
  have hsz4 : w3.heap.size < w4.heap.size := Nat.lt_of_lt_of_le (lt_of_heap HB3.out) hO4.size
  obtain ⟨x0, x1⟩ := hc4
  have HU4' : Hid (RU w4 a3 m3 cap3 (ones b)) := Lib.hid (HU4.out.keep hO4 (fun _ _ => id))
  have HUB := Lib.hid hu4
  have HB4 : Hid (w4.heap[w3.heap.size]? = some (.cells #[.int .u64 (L : Int), .slice a3 m3 cap3] 25 (0, 0))) := Lib.hid (still hO4 HB3.out)
  have HO5 : Hid (Same w w4) := Lib.hid (Same.trans HS.out (Same.trans HO4.out hO4))
  clear hb' hL' hu4 hO4 hf4 HU4 HB3 HO4 HRow HRow' HK HF HF'
  go_upto_region 5 with fail
  obtain ⟨V, hV, hSV, hBV, hkV⟩ := newBlock w4 #[.int .u64 (L : Int), .slice a4 m4 cap4] 25
  rw [← hV]
  have HK : Hid (∀ wx, Same V wx → wx.cell? ⟨w3.heap.size, 0, none⟩ = some (.int .u64 (L : Int)) ∧ wx.cell? ⟨w3.heap.size, 1, none⟩ = some (.slice a3 m3 cap3) ∧ wx.cell? ⟨w4.heap.size, 0, none⟩ = some (.int .u64 (L : Int)) ∧ wx.cell? ⟨w4.heap.size, 1, none⟩ = some (.slice a4 m4 cap4)) := Lib.hid (fun wx hx =>
    ⟨block_cell (still (Same.trans hSV hx) HB4.out) rfl, block_cell (still (Same.trans hSV hx) HB4.out) rfl, block_cell (still hx hBV) rfl, block_cell (still hx hBV) rfl⟩)
  have HUA : Hid (∀ wx, Same V wx → RU wx a3 m3 cap3 (ones b)) := Lib.hid (fun wx hx => HU4'.out.keep (Same.trans hSV hx) (fun _ _ => id))
  have HUB' : Hid (∀ wx, Same V wx → RU wx a4 m4 cap4 (ones b')) := Lib.hid (fun wx hx => HUB.out.keep (Same.trans hSV hx) (fun _ _ => id))
  have HWV : Hid (Same w V) := Lib.hid (Same.trans HO5.out hSV)
  have hlt : w3.heap.size < V.heap.size ∧ w4.heap.size < V.heap.size := ⟨by omega, by omega⟩
  have HO2 : Hid (Same V V) := Lib.hid (Only.refl _ _)
  obtain ⟨d0, d1, e0, e1⟩ := HK.out V (Only.refl _ _)
  generalize w3.heap.size = k3 at *
  generalize w4.heap.size = k4 at *
  obtain ⟨hlt1, hlt2⟩ := hlt
  clear hV hSV hBV hkV HU4' HUB HB4 HO5 HO3 HS x0 x1 HWS
  obtain ⟨nb, hnb⟩ : ∃ nb, notL b = nb := ⟨_, rfl⟩
  obtain ⟨nb', hnb'⟩ : ∃ nb', notL b' = nb' := ⟨_, rfl⟩
  have HN := Lib.hid hnb
  have HN' := Lib.hid hnb'
  have hnl : nb.length = L := by rw [← hnb, notL_len]; exact HL.out
  have hnl' : nb'.length = L := by rw [← hnb', notL_len]; exact HL'.out
  clear hnb hnb'
  have hn4 : nb.length ≤ 400 := by omega
  have hn4' : nb'.length ≤ 400 := by omega
  have HB : Hid (∀ w0 wx, Same V w0 → Same w0 wx → Calls Try.prog 34 #[.agg #[.int .u64 (L : Int), .slice a3 m3 cap3]] wx (RetBits nb wx)) := Lib.hid (fun w0 wx h0 hx => by
    have h1 := implComplement _ b wx (BV.mkL HL.out (HUA.out wx (Same.trans h0 hx))) (by rw [HL.out]; omega)
    rwa [HN.out] at h1)
  have HB' : Hid (∀ w0 wx, Same V w0 → Same w0 wx → Calls Try.prog 34 #[.agg #[.int .u64 (L : Int), .slice a4 m4 cap4]] wx (RetBits nb' wx)) := Lib.hid (fun w0 wx h0 hx => by
    have h1 := implComplement _ b' wx (BV.mkL HL'.out (HUB'.out wx (Same.trans h0 hx))) (by rw [HL'.out]; omega)
    rwa [HN'.out] at h1)
  have HNL := Lib.hid hnl
  have HNL' := Lib.hid hnl'
  clear hnl hnl'
  go_cut [7, 8] (fun s s' wx => ∃ k k' a5 a6 m5 cap5 m6 cap6, s = .pointer (some ⟨k, 0, none⟩) ∧ s' = .pointer (some ⟨k', 0, none⟩) ∧ Two V k k' nb nb' a5 a6 m5 cap5 m6 cap6 wx)
  case first =>
    go_region_held3 (fun w' => w'.cell? ⟨k3, 0, none⟩ = some (.int .u64 (L : Int)) ∧ w'.cell? ⟨k3, 1, none⟩ = some (.slice a3 m3 cap3) ∧ w'.cell? ⟨k4, 0, none⟩ = some (.int .u64 (L : Int)) ∧ w'.cell? ⟨k4, 1, none⟩ = some (.slice a4 m4 cap4))
      (first | (refine HK.out _ ?_; repeat (first | exact HO2.out | refine Only.alloc ?_ _ | refine Only.drew ?_ | refine Same.trans ?_ hO4 | refine Same.trans ?_ hO3 | refine Only.setCell ?_ _ _ (fun h => absurd h (by have := HO2.out.size; first | (simp; done) | (simp; omega))))) | go_keep)
      (first | ((go_at_call 34; (with_reducible refine (HB.out _ _ (by repeat (first | exact HO2.out | refine Only.alloc ?_ _ | refine Only.drew ?_)) (Only.refl _ _)).mono ?_); rintro e w5 ⟨a5, m5, cap5, rfl, hu3, hO3, hf3⟩; obtain ⟨hc3, hg3⟩ := kept hO3; have hz3 := hO3.size; (try simp at hc3); (try simp at hg3); (try simp at hz3); (try simp at hf3); (first | (have qa : V.heap.size + 2 ≤ w5.heap.size := (by omega); obtain ⟨ya1, ya2, ya3, ya4, ya5, ya6⟩ := lt_two qa) | (have qa : V.heap.size + 1 ≤ w5.heap.size := (by omega); obtain ⟨ya1, ya2, ya3, ya4, ya5⟩ := lt_one qa) | skip))) | ((go_at_call 34; (with_reducible refine (HB'.out _ _ (by repeat (first | exact HO2.out | refine Only.alloc ?_ _ | refine Only.drew ?_ | refine Same.trans ?_ hO3)) (Only.refl _ _)).mono ?_); rintro e w6 ⟨a6, m6, cap6, rfl, hu4, hO4, hf4⟩; obtain ⟨hc4, hg4⟩ := kept hO4; have hz4 := hO4.size; (try simp at hc4); (try simp at hg4); (try simp at hz4); (try simp at hf4); (first | (have qb : V.heap.size + 2 ≤ w6.heap.size := (by omega); obtain ⟨yb1, yb2, yb3, yb4, yb5, yb6⟩ := lt_two qb) | (have qb : V.heap.size + 1 ≤ w6.heap.size := (by omega); obtain ⟨yb1, yb2, yb3, yb4, yb5⟩ := lt_one qb) | skip); (first | (have qc : w5.heap.size + 2 ≤ w6.heap.size := (by omega); obtain ⟨yc1, yc2, yc3, yc4, yc5, yc6⟩ := lt_two qc) | (have qc : w5.heap.size + 1 ≤ w6.heap.size := (by omega); obtain ⟨yc1, yc2, yc3, yc4, yc5⟩ := lt_one qc) | skip))))
    all_goals
      have hWs := HO2.out.size
      clear hc3 hg3 hc4 hg4 d0 d1 e0 e1 HB HB' HK
      go_wp2
      go_meet
      case rel =>
        refine ⟨_, _, a5, a6, m5, cap5, m6, cap6, rfl, rfl, ?_⟩
        have q4 : Same w6 w6 := Only.refl _ _
        have q3 : Same w5 w6 := by repeat (first | (with_reducible exact Only.refl _ _) | (with_reducible exact HO2.out) | (with_reducible refine Only.alloc ?_ _) | (with_reducible refine only_then ?_ hO4) | (with_reducible refine only_then ?_ hO3) | (with_reducible refine Only.drew ?_))
        have qs : Same V w6 := by repeat (first | (with_reducible exact Only.refl _ _) | (with_reducible exact HO2.out) | (with_reducible refine Only.alloc ?_ _) | (with_reducible refine only_then ?_ hO4) | (with_reducible refine only_then ?_ hO3) | (with_reducible refine Only.drew ?_))
        have hlt3 : ∀ j, At a5 j → j < w6.heap.size := fun j hj => by have := hf3 j hj; omega
        have hlt4 : ∀ j, At a6 j → j < w6.heap.size := fun j hj => (hf4 j hj).2
        first
        | exact Two.ofA hu3 hu4 hn4 hn4' q3 q4 qs hlt3 hlt4
        | exact (Two.ofA hu4 hu3 hn4' hn4 q4 q3 qs hlt4 hlt3).symm
        | (refine Two.ofB (x0 := .int .u64 0) (x1 := .slice none 0 0) hu3 hu4 hn4 hn4' q3 q4 qs (fun j hj => ?_) (fun j hj => ?_) ?_ ?_
           · have := hf3 j hj; omega
           · have := hf4 j hj; omega
           · repeat (first | exact heap_alloc_second _ _ _ | ((with_reducible refine heap_alloc_new' _ _ _ ?_); (first | rfl | (simp; done) | omega); done) | (with_reducible refine obj_then hO4 ?_) | (with_reducible refine obj_then hO3 ?_) | (with_reducible refine obj_drew ?_) | ((with_reducible refine obj_alloc ?_ ?_); (first | omega | (simp; done) | (simp; omega))))
           · omega)
        | (refine (Two.ofB (x0 := .int .u64 0) (x1 := .slice none 0 0) hu4 hu3 hn4' hn4 q4 q3 qs (fun j hj => ?_) (fun j hj => ?_) ?_ ?_).symm
           · have := hf4 j hj; omega
           · have := hf3 j hj; omega
           · repeat (first | exact heap_alloc_second _ _ _ | ((with_reducible refine heap_alloc_new' _ _ _ ?_); (first | rfl | (simp; done) | omega); done) | (with_reducible refine obj_then hO4 ?_) | (with_reducible refine obj_then hO3 ?_) | (with_reducible refine obj_drew ?_) | ((with_reducible refine obj_alloc ?_ ?_); (first | omega | (simp; done) | (simp; omega))))
           · omega)
        | (refine Two.of4 (w3 := w5) (w4 := w6) (x0 := .int .u64 0) (x1 := .slice none 0 0) (y0 := .int .u64 0) (y1 := .slice none 0 0) hu3 hu4 hn4 hn4' q3 q4 qs ?_ ?_ ?_ (fun j hj => ?_) ?_ ?_
           · repeat (first | exact heap_alloc_second _ _ _ | ((with_reducible refine heap_alloc_new' _ _ _ ?_); (first | rfl | (simp; done) | omega); done) | (with_reducible refine obj_then hO4 ?_) | (with_reducible refine obj_then hO3 ?_) | (with_reducible refine obj_drew ?_) | ((with_reducible refine obj_alloc ?_ ?_); (first | omega | (simp; done) | (simp; omega))))
           · repeat (first | exact heap_alloc_second _ _ _ | ((with_reducible refine heap_alloc_new' _ _ _ ?_); (first | rfl | (simp; done) | omega); done) | (with_reducible refine obj_then hO4 ?_) | (with_reducible refine obj_then hO3 ?_) | (with_reducible refine obj_drew ?_) | ((with_reducible refine obj_alloc ?_ ?_); (first | omega | (simp; done) | (simp; omega))))
           · omega
           · rcases hj with hj | hj
             · have := hf3 j hj; omega
             · have := hf4 j hj; omega
           · omega
           · omega)
  case rest =>
    obtain ⟨k, k', a5, a6, m5, cap5, m6, cap6, rfl, rfl, htwo⟩ := hcut
    clear d0 d1 e0 e1
    have HC : Hid (∀ wx, Same wc wx → (wx.cell? ⟨k3, 0, none⟩ = some (.int .u64 (L : Int)) ∧ wx.cell? ⟨k3, 1, none⟩ = some (.slice a3 m3 cap3)) ∧ (wx.cell? ⟨k4, 0, none⟩ = some (.int .u64 (L : Int)) ∧ wx.cell? ⟨k4, 1, none⟩ = some (.slice a4 m4 cap4)) ∧
        (wx.cell? ⟨k, 0, none⟩ = some (.int .u64 (L : Int)) ∧ wx.cell? ⟨k, 1, none⟩ = some (.slice a5 m5 cap5)) ∧ (wx.cell? ⟨k', 0, none⟩ = some (.int .u64 (L : Int)) ∧ wx.cell? ⟨k', 1, none⟩ = some (.slice a6 m6 cap6))) := Lib.hid (fun wx hx => by
      obtain ⟨y0, y1, y2, y3⟩ := HK.out wx (Same.trans htwo.same hx)
      have z0 := (htwo.one.keep hx).c0
      have z1 := (htwo.one.keep hx).c1
      have z2 := (htwo.two.keep hx).c0
      have z3 := (htwo.two.keep hx).c1
      rw [HNL.out] at z0
      rw [HNL'.out] at z2
      exact ⟨⟨y0, y1⟩, ⟨y2, y3⟩, ⟨z0, z1⟩, ⟨z2, z3⟩⟩)
    have HRA : Hid (∀ wx, Same wc wx → RU wx a3 m3 cap3 (ones b)) := Lib.hid (fun wx hx => HUA.out wx (Same.trans htwo.same hx))
    have HRB : Hid (∀ wx, Same wc wx → RU wx a4 m4 cap4 (ones b')) := Lib.hid (fun wx hx => HUB'.out wx (Same.trans htwo.same hx))
    have HRC : Hid (∀ wx, Same wc wx → RU wx a5 m5 cap5 (ones nb)) := Lib.hid (fun wx hx => htwo.ru.keep hx (fun _ _ => id))
    have HRD : Hid (∀ wx, Same wc wx → RU wx a6 m6 cap6 (ones nb')) := Lib.hid (fun wx hx => htwo.ru'.keep hx (fun _ _ => id))
    have HWC : Hid (Same w wc) := Lib.hid (Same.trans HWV.out htwo.same)
    obtain ⟨g1, hg1⟩ : ∃ d, twoL (fun x y => x || y) b b' L = d := ⟨_, rfl⟩
    obtain ⟨g2, hg2⟩ : ∃ d, notL g1 = d := ⟨_, rfl⟩
    obtain ⟨g3, hg3⟩ : ∃ d, twoL (fun x y => x && y) nb nb' L = d := ⟨_, rfl⟩
    obtain ⟨g4, hg4⟩ : ∃ d, twoL (fun x y => x || y) nb nb' L = d := ⟨_, rfl⟩
    obtain ⟨g5, hg5⟩ : ∃ d, List.replicate L true = d := ⟨_, rfl⟩
    obtain ⟨g6, hg6⟩ : ∃ d, twoL (fun x y => x && y) b b' L = d := ⟨_, rfl⟩
    obtain ⟨g7, hg7⟩ : ∃ d, twoL (fun x y => x && !y) g5 g6 L = d := ⟨_, rfl⟩
    have HG1 : Hid (g1.length = L) := Lib.hid (by rw [← hg1, twoL_len])
    have HG2 : Hid (g2.length = L) := Lib.hid (by rw [← hg2, notL_len, HG1.out])
    have HG4 : Hid (g4.length = L) := Lib.hid (by rw [← hg4, twoL_len])
    have HG5 : Hid (g5.length = L) := Lib.hid (by rw [← hg5, List.length_replicate])
    have HG6 : Hid (g6.length = L) := Lib.hid (by rw [← hg6, twoL_len])
    have HE1 : Hid (g2 = g3) := Lib.hid (by rw [← hg2, ← hg1, ← hg3, ← HN.out, ← HN'.out]; exact morgan1 HL.out HL'.out)
    have HE2 : Hid (g4 = g7) := Lib.hid (by rw [← hg7, ← hg6, ← hg5, ← hg4, ← HN.out, ← HN'.out]; exact morgan2 HL.out HL'.out)
    have hL1 : L ≤ 1000 := by omega
    have H1 : Hid (∀ wx, Same wc wx → Calls Try.prog 36 #[.agg #[.int .u64 (L : Int), .slice a3 m3 cap3], .agg #[.int .u64 (L : Int), .slice a4 m4 cap4]] wx (FL wx L g1)) := Lib.hid (fun wx hx => cUnion HL.out HL'.out hg1 hL1 _ _ _ _ _ _ wx (HRA.out wx hx) (HRB.out wx hx))
    have H2 : Hid (∀ a m cap wx, RU wx a m cap (ones g1) → Calls Try.prog 34 #[.agg #[.int .u64 (L : Int), .slice a m cap]] wx (FL wx L g2)) := Lib.hid (fun a m cap wx hx => cComp HG1.out hg2 hL1 _ _ _ wx hx)
    have H3 : Hid (∀ wx, Same wc wx → Calls Try.prog 37 #[.agg #[.int .u64 (L : Int), .slice a5 m5 cap5], .agg #[.int .u64 (L : Int), .slice a6 m6 cap6]] wx (FL wx L g3)) := Lib.hid (fun wx hx => cInter HNL.out HNL'.out hg3 hL1 _ _ _ _ _ _ wx (HRC.out wx hx) (HRD.out wx hx))
    have H4 : Hid (∀ a m cap a' m' cap' wx, RU wx a m cap (ones g2) → RU wx a' m' cap' (ones g3) → Calls Try.prog 35 #[.slice a m cap, .slice a' m' cap'] wx (FV wx (.bool true))) := Lib.hid (fun a m cap a' m' cap' wx hx hx' => cList HG2.out HE1.out hL1 _ _ _ _ _ _ wx hx hx')
    have H5 : Hid (∀ wx, Same wc wx → Calls Try.prog 36 #[.agg #[.int .u64 (L : Int), .slice a5 m5 cap5], .agg #[.int .u64 (L : Int), .slice a6 m6 cap6]] wx (FL wx L g4)) := Lib.hid (fun wx hx => cUnion HNL.out HNL'.out hg4 hL1 _ _ _ _ _ _ wx (HRC.out wx hx) (HRD.out wx hx))
    have H6 : Hid (∀ wx, Same wc wx → Calls Try.prog 39 #[.agg #[.int .u64 (L : Int), .slice a3 m3 cap3]] wx (FL wx L g5)) := Lib.hid (fun wx hx => cSetAll HL.out hg5 hL1 _ _ _ wx (HRA.out wx hx))
    have H7 : Hid (∀ wx, Same wc wx → Calls Try.prog 37 #[.agg #[.int .u64 (L : Int), .slice a3 m3 cap3], .agg #[.int .u64 (L : Int), .slice a4 m4 cap4]] wx (FL wx L g6)) := Lib.hid (fun wx hx => cInter HL.out HL'.out hg6 hL1 _ _ _ _ _ _ wx (HRA.out wx hx) (HRB.out wx hx))
    have H8 : Hid (∀ a m cap a' m' cap' wx, RU wx a m cap (ones g5) → RU wx a' m' cap' (ones g6) → Calls Try.prog 38 #[.agg #[.int .u64 (L : Int), .slice a m cap], .agg #[.int .u64 (L : Int), .slice a' m' cap']] wx (FL wx L g7)) := Lib.hid (fun a m cap a' m' cap' wx hx hx' => cDiff HG5.out HG6.out hg7 hL1 _ _ _ _ _ _ wx hx hx')
    have H9 : Hid (∀ a m cap a' m' cap' wx, RU wx a m cap (ones g4) → RU wx a' m' cap' (ones g7) → Calls Try.prog 35 #[.slice a m cap, .slice a' m' cap'] wx (FV wx (.bool true))) := Lib.hid (fun a m cap a' m' cap' wx hx hx' => cList HG4.out HE2.out hL1 _ _ _ _ _ _ wx hx hx')
    clear htwo HK HB HB' HUA HUB' HWV HN HN' HL HL' HNL HNL' hg1 hg2 hg3 hg4 hg5 hg6 hg7 HG1 HG2 HG4 HG5 HG6 HE1 HE2 HRA HRB HRC HRD HA3 hn4 hn4' hlt1 hlt2 hsz hb4
    obtain ⟨⟨x0, x1⟩, ⟨x2, x3⟩, ⟨x4, x5⟩, ⟨x6, x7⟩⟩ := HC.out wc (Only.refl _ _)
    go_wp2_with fail
    have hfi : ∀ (wx : World) (a : Option Addr) (m cap : Nat), (Instr.field 25 (Value.agg #[Value.int IntKind.u64 (L : Int), Value.slice a m cap]) 1).run Try.prog wx = .ok (.slice a m cap) wx := fun wx a m cap => run_In wx L a m cap
    go_region_held3 (fun w' => (w'.cell? ⟨k3, 0, none⟩ = some (.int .u64 (L : Int)) ∧ w'.cell? ⟨k3, 1, none⟩ = some (.slice a3 m3 cap3)) ∧ (w'.cell? ⟨k4, 0, none⟩ = some (.int .u64 (L : Int)) ∧ w'.cell? ⟨k4, 1, none⟩ = some (.slice a4 m4 cap4)) ∧
        (w'.cell? ⟨k, 0, none⟩ = some (.int .u64 (L : Int)) ∧ w'.cell? ⟨k, 1, none⟩ = some (.slice a5 m5 cap5)) ∧ (w'.cell? ⟨k', 0, none⟩ = some (.int .u64 (L : Int)) ∧ w'.cell? ⟨k', 1, none⟩ = some (.slice a6 m6 cap6)))
      (first | exact HC.out _ (Only.drew (Only.refl _ _)) | exact HC.out _ (by assumption))
      (first
        | ((go_at_call 36; (with_reducible refine (H1.out _ (by first | exact (Only.refl _ wc).drew | exact Only.refl _ wc)).mono ?_); rintro e w11 ⟨a11, m11, cap11, rfl, hu11, hO11'⟩; have hO11 : Same wc w11 := Same.trans (by first | exact (Only.refl _ wc).drew | exact Only.refl _ wc) hO11'))
        | ((go_at_call 34; (with_reducible refine (H2.out _ _ _ _ hu11).mono ?_); rintro e w12 ⟨a12, m12, cap12, rfl, hu12, hO12'⟩; have hO12 := Same.trans hO11 hO12'))
        | ((go_at_call 37; (with_reducible refine (H3.out _ hO12).mono ?_); rintro e w13 ⟨a13, m13, cap13, rfl, hu13, hO13'⟩; have hO13 := Same.trans hO12 hO13'))
        | ((go_at_call 35; (with_reducible refine (H4.out _ _ _ _ _ _ _ (hu12.keep hO13' (fun _ _ => id)) hu13).mono ?_); rintro e w14 ⟨rfl, hO14'⟩; have hO14 := Same.trans hO13 hO14'))
        | ((go_at_call 36; (with_reducible refine (H5.out _ hO14).mono ?_); rintro e w15 ⟨a15, m15, cap15, rfl, hu15, hO15'⟩; have hO15 := Same.trans hO14 hO15'))
        | ((go_at_call 39; (with_reducible refine (H6.out _ hO15).mono ?_); rintro e w16 ⟨a16, m16, cap16, rfl, hu16, hO16'⟩; have hO16 := Same.trans hO15 hO16'))
        | ((go_at_call 37; (with_reducible refine (H7.out _ hO16).mono ?_); rintro e w17 ⟨a17, m17, cap17, rfl, hu17, hO17'⟩; have hO17 := Same.trans hO16 hO17'))
        | ((go_at_call 38; (with_reducible refine (H8.out _ _ _ _ _ _ _ (hu16.keep hO17' (fun _ _ => id)) hu17).mono ?_); rintro e w18 ⟨a18, m18, cap18, rfl, hu18, hO18'⟩; have hO18 := Same.trans hO17 hO18'))
        | ((go_at_call 35; (with_reducible refine (H9.out _ _ _ _ _ _ _ (hu15.keep (Same.trans hO16' (Same.trans hO17' hO18')) (fun _ _ => id)) hu18).mono ?_); rintro e w19 ⟨rfl, hO19'⟩; have hO19 := Same.trans hO18 hO19')))
    all_goals
      go_wp2
      go_ret
      exact ⟨by simp, Only.below (Same.trans HWC.out hO19) (Nat.le_refl _) (fun _ _ => id)⟩

theorem walk (W : World) (v0 v1 : Value) (r0 : Reads Try.prog W 25 v0) (r1 : Reads Try.prog W 25 v1) :
    Calls Try.prog 8 #[v0, v1] W fun e w' => e = .returned (.bool true) ∧ Below W.heap.size W w' := by
  obtain ⟨n, a, m, cap, zs, rfl, hr⟩ := Reads.bits r0
  obtain ⟨n', a', m', cap', zs', rfl, hr'⟩ := Reads.bits r1
  by_cases hm : m ≤ 2147483647
  · by_cases hm' : m' ≤ 2147483647
    · exact main n n' a a' m cap m' cap' zs zs' W hr hm hr' hm'
    · have HY := Lib.hid (fun wx => fits_yes (n : Int) a m cap wx hm)
      have HN := Lib.hid (fun wx => fits_no (n' : Int) a' m' cap' wx (by omega))
      clear r0 r1 hr hr'
      go_enter Try.func8, Try.ntmps8
      go_wp2_with fail
      refine (HY.out _).mono ?_
      rintro e w1 ⟨rfl, hO1⟩
      obtain ⟨hc, hf⟩ := kept hO1
      have hO1 := same_alloc (same_alloc hO1)
      simp at hc hf
      go_wp2_with fail
      refine (HN.out _).mono ?_
      rintro e w2 ⟨rfl, hO2⟩
      have HO2 := Lib.hid (Same.trans hO1 hO2)
      clear hO1 hO2 hc hf
      go_wp2_with fail
      go_ret
      exact ⟨rfl, Only.below HO2.out (Nat.le_refl _) (fun _ _ => id)⟩
  · have HN := Lib.hid (fun wx => fits_no (n : Int) a m cap wx (by omega))
    clear r0 r1 hr hr'
    go_enter Try.func8, Try.ntmps8
    go_wp2_with fail
    refine (HN.out _).mono ?_
    rintro e w1 ⟨rfl, hO1⟩
    have HO1 := Lib.hid (same_alloc (same_alloc hO1))
    clear hO1
    go_wp2_with fail
    go_ret
    exact ⟨rfl, Only.below HO1.out (Nat.le_refl _) (fun _ _ => id)⟩
end Go.Proofs.Ythnfoiaemeklnaa.walkFnBSMorgan

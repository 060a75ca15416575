/-
  FnBSEqual: the walk. Two bitsets are equal just if their lengths and their bits are.
-/
import Derived.Test.YthnfoiaemeklnaaBsTwo
namespace Go.Proofs.Ythnfoiaemeklnaa.walkFnBSEqual
open Go.RowKit Go.Proofs.Ythnfoiaemeklnaa.base Go.Proofs.Ythnfoiaemeklnaa.heap Go.Proofs.Ythnfoiaemeklnaa.bit Go.Proofs.Ythnfoiaemeklnaa.bs
set_option linter.unusedVariables false
set_option maxRecDepth 100000 in
set_option maxHeartbeats 16000000 in
theorem main (n n' : Nat) (a a' : Option Addr) (m cap m' cap' : Nat) (zs zs' : List Int) (h p : Nat) (w : World) (hr : IsRow .u64 w a m cap zs) (hm : m ≤ 2147483647) (hr' : IsRow .u64 w a' m' cap' zs') (hm' : m' ≤ 2147483647) (hh : h < 256) (hp : p < 256) :
    Calls Try.prog 3 #[.agg #[.int .u64 (n : Int), .slice a m cap], .agg #[.int .u64 (n' : Int), .slice a' m' cap'], .int .u8 (h : Int), .int .u8 (p : Int)] w fun e w' => e = .returned (.bool true) ∧ Below w.heap.size w w' := by
  have HRow := Lib.hid hr
  have HRow' := Lib.hid hr'
  clear hr hr'
  go_enter Try.func3, Try.ntmps3
  go_wp2_with fail
  obtain ⟨W, hW⟩ : ∃ W, W = (w.alloc (.cells #[.int .u64 (n : Int), .slice a m cap] 25)).alloc (.cells #[.int .u64 (n' : Int), .slice a' m' cap'] 25) := ⟨_, rfl⟩
  have hS : Same w W := by rw [hW]; exact ((Only.refl _ w).alloc _).alloc _
  have hA : W.heap[w.heap.size]? = some (.cells #[.int .u64 (n : Int), .slice a m cap] 25 (0, 0)) := by
    rw [hW, Below.heap_alloc _ _ _ (by simp)]; exact heap_alloc_new _ _
  have hB : W.heap[w.heap.size + 1]? = some (.cells #[.int .u64 (n' : Int), .slice a' m' cap'] 25 (0, 0)) := by
    rw [hW]; exact heap_alloc_new' _ _ _ (by simp)
  rw [← hW]
  have HK : Hid (∀ wx, Same W wx → wx.cell? ⟨w.heap.size, 0, none⟩ = some (.int .u64 (n : Int)) ∧ wx.cell? ⟨w.heap.size, 1, none⟩ = some (.slice a m cap) ∧ wx.cell? ⟨w.heap.size + 1, 0, none⟩ = some (.int .u64 (n' : Int)) ∧ wx.cell? ⟨w.heap.size + 1, 1, none⟩ = some (.slice a' m' cap')) := Lib.hid (fun wx hx =>
    ⟨block_cell (still hx hA) rfl, block_cell (still hx hA) rfl, block_cell (still hx hB) rfl, block_cell (still hx hB) rfl⟩)
  have HF : Hid (∀ wx, Same W wx → Calls Try.prog 11 #[.agg #[.int .u64 (n : Int), .slice a m cap]] wx (FV wx (.bool true))) := Lib.hid (fun wx hx => fv (Only.refl _ _) (fits_yes _ _ _ _ _ hm))
  have HF' : Hid (∀ wx, Same W wx → Calls Try.prog 11 #[.agg #[.int .u64 (n' : Int), .slice a' m' cap']] wx (FV wx (.bool true))) := Lib.hid (fun wx hx => fv (Only.refl _ _) (fits_yes _ _ _ _ _ hm'))
  have HB : Hid (∀ w0 wx, Same W w0 → Same w0 wx → Calls Try.prog 12 #[.agg #[.int .u64 (n : Int), .slice a m cap]] wx (FSome2 wx)) := Lib.hid (fun w0 wx h0 hx => fsome2 (IsRow.keep HRow.out (hS.trans (h0.trans hx))) hm)
  have HB' : Hid (∀ w0 wx, Same W w0 → Same w0 wx → Calls Try.prog 12 #[.agg #[.int .u64 (n' : Int), .slice a' m' cap']] wx (FSome2 wx)) := Lib.hid (fun w0 wx h0 hx => fsome2 (IsRow.keep HRow'.out (hS.trans (h0.trans hx))) hm')
  have HB2 : Hid (∀ (x : Nat) wx, Same W wx → Calls Try.prog 12 #[.agg #[.int .u64 (x : Int), .slice a' m' cap']] wx (FSome2 wx)) := Lib.hid (fun x wx hx => fsome2 (IsRow.keep HRow'.out (hS.trans hx)) hm')
  have HS := Lib.hid hS
  have HBB := Lib.hid hB
  clear hW hS hA hB
  refine (HF.out W (Only.refl _ _)).mono ?_
  rintro e w1 ⟨rfl, hO1⟩
  obtain ⟨d0, d1, e0, e1⟩ := HK.out w1 hO1
  go_wp2_with fail
  refine (HF'.out w1 hO1).mono ?_
  rintro e w2 ⟨rfl, hO2⟩
  have hO2 := Same.trans hO1 hO2
  clear d0 d1 e0 e1 hO1
  obtain ⟨d0, d1, e0, e1⟩ := HK.out w2 hO2
  have hsz2 : w.heap.size + 1 < w2.heap.size := by
    have h1 := HS.out.size
    have := lt_of_heap HBB.out
    have := hO2.size
    omega
  have HO2 := Lib.hid hO2
  clear hO2
  go_upto_region 3 with fail
  go_cut [9, 10] (fun s s' wx => TwoV W s s' wx)
  case first =>
    go_region_held3 (fun w' => w'.cell? ⟨w.heap.size, 0, none⟩ = some (.int .u64 (n : Int)) ∧ w'.cell? ⟨w.heap.size, 1, none⟩ = some (.slice a m cap) ∧ w'.cell? ⟨w.heap.size + 1, 0, none⟩ = some (.int .u64 (n' : Int)) ∧ w'.cell? ⟨w.heap.size + 1, 1, none⟩ = some (.slice a' m' cap'))
      (first | (refine HK.out _ ?_; repeat (first | exact HO2.out | refine Only.alloc ?_ _ | refine Only.drew ?_ | refine Same.trans ?_ hO4 | refine Same.trans ?_ hO3 | refine Only.setCell ?_ _ _ (fun h => absurd h (by have := HO2.out.size; simp; omega)))) | go_keep)
      (first | ((go_at_call 12; (with_reducible refine (HB.out _ _ (by repeat (first | exact HO2.out | refine Only.alloc ?_ _ | refine Only.drew ?_)) (Only.refl _ _)).mono ?_); rintro e w3 ⟨b, a3, m3, cap3, hb4, rfl, hu3, hO3, hf3⟩; obtain ⟨hc3, hg3⟩ := kept hO3; have hz3 := hO3.size; (try simp at hc3); (try simp at hg3); (try simp at hz3); (try simp at hf3); (first | (have qa : w2.heap.size + 2 ≤ w3.heap.size := (by omega); obtain ⟨ya1, ya2, ya3, ya4, ya5, ya6⟩ := lt_two qa) | (have qa : w2.heap.size + 1 ≤ w3.heap.size := (by omega); obtain ⟨ya1, ya2, ya3, ya4, ya5⟩ := lt_one qa) | skip))) | ((go_at_call 12; (with_reducible refine (HB'.out _ _ (by repeat (first | exact HO2.out | refine Only.alloc ?_ _ | refine Only.drew ?_ | refine Same.trans ?_ hO3)) (Only.refl _ _)).mono ?_); rintro e w4 ⟨b', a4, m4, cap4, hb4', rfl, hu4, hO4, hf4⟩; obtain ⟨hc4, hg4⟩ := kept hO4; have hz4 := hO4.size; (try simp at hc4); (try simp at hg4); (try simp at hz4); (try simp at hf4); (first | (have qb : w2.heap.size + 2 ≤ w4.heap.size := (by omega); obtain ⟨yb1, yb2, yb3, yb4, yb5, yb6⟩ := lt_two qb) | (have qb : w2.heap.size + 1 ≤ w4.heap.size := (by omega); obtain ⟨yb1, yb2, yb3, yb4, yb5⟩ := lt_one qb) | skip); (first | (have qc : w3.heap.size + 2 ≤ w4.heap.size := (by omega); obtain ⟨yc1, yc2, yc3, yc4, yc5, yc6⟩ := lt_two qc) | (have qc : w3.heap.size + 1 ≤ w4.heap.size := (by omega); obtain ⟨yc1, yc2, yc3, yc4, yc5⟩ := lt_one qc) | skip))))
    all_goals
      have hWs := HO2.out.size
      clear hc3 hg3 hc4 hg4 d0 d1 e0 e1 HB HB' HF HF' HRow HRow' HK
      go_wp2
      go_meet
      case rel =>
        refine ⟨_, _, b, b', a3, a4, m3, cap3, m4, cap4, rfl, rfl, ?_⟩
        have q4 : Same w4 w4 := Only.refl _ _
        have q3 : Same w3 w4 := by repeat (first | (with_reducible exact Only.refl _ _) | (with_reducible exact HO2.out) | (with_reducible refine Only.alloc ?_ _) | (with_reducible refine only_then ?_ hO4) | (with_reducible refine only_then ?_ hO3) | (with_reducible refine Only.drew ?_))
        have qs : Same W w4 := by repeat (first | (with_reducible exact Only.refl _ _) | (with_reducible exact HO2.out) | (with_reducible refine Only.alloc ?_ _) | (with_reducible refine only_then ?_ hO4) | (with_reducible refine only_then ?_ hO3) | (with_reducible refine Only.drew ?_))
        have hlt3 : ∀ j, At a3 j → j < w4.heap.size := fun j hj => by have := hf3 j hj; omega
        have hlt4 : ∀ j, At a4 j → j < w4.heap.size := fun j hj => (hf4 j hj).2
        first
        | exact Two.ofA hu3 hu4 hb4 hb4' q3 q4 qs hlt3 hlt4
        | exact (Two.ofA hu4 hu3 hb4' hb4 q4 q3 qs hlt4 hlt3).symm
        | (refine Two.ofB (x0 := .int .u64 0) (x1 := .slice none 0 0) hu3 hu4 hb4 hb4' q3 q4 qs (fun j hj => ?_) (fun j hj => ?_) ?_ ?_
           · have := hf3 j hj; omega
           · have := hf4 j hj; omega
           · repeat (first | exact heap_alloc_second _ _ _ | ((with_reducible refine heap_alloc_new' _ _ _ ?_); (first | rfl | (simp; done) | omega); done) | (with_reducible refine obj_then hO4 ?_) | (with_reducible refine obj_then hO3 ?_) | (with_reducible refine obj_drew ?_) | ((with_reducible refine obj_alloc ?_ ?_); (first | omega | (simp; done) | (simp; omega))))
           · omega)
        | (refine (Two.ofB (x0 := .int .u64 0) (x1 := .slice none 0 0) hu4 hu3 hb4' hb4 q4 q3 qs (fun j hj => ?_) (fun j hj => ?_) ?_ ?_).symm
           · have := hf4 j hj; omega
           · have := hf3 j hj; omega
           · repeat (first | exact heap_alloc_second _ _ _ | ((with_reducible refine heap_alloc_new' _ _ _ ?_); (first | rfl | (simp; done) | omega); done) | (with_reducible refine obj_then hO4 ?_) | (with_reducible refine obj_then hO3 ?_) | (with_reducible refine obj_drew ?_) | ((with_reducible refine obj_alloc ?_ ?_); (first | omega | (simp; done) | (simp; omega))))
           · omega)
        | (refine Two.of4 (w3 := w3) (w4 := w4) (x0 := .int .u64 0) (x1 := .slice none 0 0) (y0 := .int .u64 0) (y1 := .slice none 0 0) hu3 hu4 hb4 hb4' q3 q4 qs ?_ ?_ ?_ (fun j hj => ?_) ?_ ?_
           · repeat (first | exact heap_alloc_second _ _ _ | ((with_reducible refine heap_alloc_new' _ _ _ ?_); (first | rfl | (simp; done) | omega); done) | (with_reducible refine obj_then hO4 ?_) | (with_reducible refine obj_then hO3 ?_) | (with_reducible refine obj_drew ?_) | ((with_reducible refine obj_alloc ?_ ?_); (first | omega | (simp; done) | (simp; omega))))
           · repeat (first | exact heap_alloc_second _ _ _ | ((with_reducible refine heap_alloc_new' _ _ _ ?_); (first | rfl | (simp; done) | omega); done) | (with_reducible refine obj_then hO4 ?_) | (with_reducible refine obj_then hO3 ?_) | (with_reducible refine obj_drew ?_) | ((with_reducible refine obj_alloc ?_ ?_); (first | omega | (simp; done) | (simp; omega))))
           · omega
           · rcases hj with hj | hj
             · have := hf3 j hj; omega
             · have := hf4 j hj; omega
           · omega
           · omega)
  case rest =>
    obtain ⟨k, k', b, b', a3, a4, m3, cap3, m4, cap4, rfl, rfl, htwo⟩ := hcut
    obtain ⟨o0, o1⟩ : wc.cell? ⟨w.heap.size + 1, 0, none⟩ = some (.int .u64 (n' : Int)) ∧ wc.cell? ⟨w.heap.size + 1, 1, none⟩ = some (.slice a' m' cap') := ⟨(HK.out wc htwo.same).2.2.1, (HK.out wc htwo.same).2.2.2⟩
    obtain ⟨x0, x1, x2, x3⟩ : wc.cell? ⟨k, 0, none⟩ = some (.int .u64 (b.length : Int)) ∧ wc.cell? ⟨k, 1, none⟩ = some (.slice a3 m3 cap3) ∧ wc.frozen? ⟨k, 0, none⟩ = false ∧ wc.frozen? ⟨k, 1, none⟩ = false := ⟨htwo.one.c0, htwo.one.c1, htwo.one.f0, htwo.one.f1⟩
    obtain ⟨z0, z1, z2, z3⟩ : wc.cell? ⟨k', 0, none⟩ = some (.int .u64 (b'.length : Int)) ∧ wc.cell? ⟨k', 1, none⟩ = some (.slice a4 m4 cap4) ∧ wc.frozen? ⟨k', 0, none⟩ = false ∧ wc.frozen? ⟨k', 1, none⟩ = false := ⟨htwo.two.c0, htwo.two.c1, htwo.two.f0, htwo.two.f1⟩
    have hne := htwo.ne
    have hne' := Ne.symm htwo.ne
    have HTW := Lib.hid htwo
    have hbl : b.length ≤ 400 := htwo.le.1
    have HWS : Hid (Same w wc) := Lib.hid (Same.trans HS.out htwo.same)
    have HKW : Hid (∀ v v', Same w ((wc.setCell ⟨k', 0, none⟩ v).setCell ⟨k', 1, none⟩ v')) := Lib.hid (fun v v' => by
      have h1 := htwo.new
      have h2 := HS.out.size
      exact ((HWS.out.setCell _ _ (fun h => absurd h (by simp; omega))).setCell _ _ (fun h => absurd h (by simp; omega))))
    clear d0 d1 e0 e1 htwo
    obtain ⟨q, hq⟩ : ∃ q : Nat, h % 4 = q := ⟨_, rfl⟩
    have hqi : (h : Int) % 4 = (q : Int) := by omega
    have hq4 : q = 0 ∨ q = 1 ∨ q = 2 ∨ q = 3 := by omega
    clear hq
    rcases hq4 with rfl | rfl | rfl | rfl
    · go_wp2_with fail
      have HF5 := Lib.hid (fin_facts (HTW.out.one) (HTW.out.two) (HTW.out.ru) (HTW.out.ru') hbl (by have := HTW.out.le.2; omega))
      have HSV : Hid (Same w (wc)) := Lib.hid (HWS.out)
      clear x0 x1 x2 x3 z0 z1 z2 z3 o0 o1
      generalize hV : wc = V at *
      clear hV
      obtain ⟨⟨x0, x1⟩, ⟨z0, z1⟩⟩ := HF5.out.1 V (Only.refl _ _)
      go_region_held3 (fun w' => (w'.cell? ⟨k, 0, none⟩ = some (.int .u64 (b.length : Int)) ∧ w'.cell? ⟨k, 1, none⟩ = some (.slice a3 m3 cap3)) ∧ (w'.cell? ⟨k', 0, none⟩ = some (.int .u64 (b'.length : Int)) ∧ w'.cell? ⟨k', 1, none⟩ = some (.slice a4 m4 cap4)))
        (first | (exact HF5.out.1 _ (Same.trans hO6 hO7)) | (exact HF5.out.1 _ hO6) | (exact HF5.out.1 _ (Only.drew (Only.refl _ V))))
        (first | ((go_at_call 13; (with_reducible refine (HF5.out.2.1 V _ (Only.refl _ _) (by first | exact (Only.refl _ V).drew | exact Only.refl _ V)).mono ?_); rintro e w6 ⟨rfl, hO6⟩)) | ((go_at_call 14; (with_reducible refine (HF5.out.2.2 w6 _ hO6 (Only.refl _ _)).mono ?_); rintro e w7 ⟨rfl, hO7⟩)))
      all_goals
        go_wp2
        go_ret
        exact ⟨by simp, Only.below (Same.trans HSV.out (Same.trans hO6 hO7)) (Nat.le_refl _) (fun _ _ => id)⟩
    · go_wp2_with fail
      have HF5 := Lib.hid (fin_facts (HTW.out.one.far hne _ _) (HTW.out.two.write) (HTW.out.ru.keep (((Only.refl (fun j => j = k') wc).setCell _ _ (fun _ => rfl)).setCell _ _ (fun _ => rfl)) (fun j hj e => (HTW.out.far j (.inl hj)).2 e)) (HTW.out.ru.keep (((Only.refl (fun j => j = k') wc).setCell _ _ (fun _ => rfl)).setCell _ _ (fun _ => rfl)) (fun j hj e => (HTW.out.far j (.inl hj)).2 e)) hbl (by omega))
      have HSV : Hid (Same w (((wc.setCell ⟨k', 0, none⟩ (.int .u64 (b.length : Int))).setCell ⟨k', 1, none⟩ (.slice a3 m3 cap3)))) := Lib.hid (HKW.out _ _)
      clear x0 x1 x2 x3 z0 z1 z2 z3 o0 o1
      generalize hV : ((wc.setCell ⟨k', 0, none⟩ (.int .u64 (b.length : Int))).setCell ⟨k', 1, none⟩ (.slice a3 m3 cap3)) = V at *
      clear hV
      obtain ⟨⟨x0, x1⟩, ⟨z0, z1⟩⟩ := HF5.out.1 V (Only.refl _ _)
      go_region_held3 (fun w' => (w'.cell? ⟨k, 0, none⟩ = some (.int .u64 (b.length : Int)) ∧ w'.cell? ⟨k, 1, none⟩ = some (.slice a3 m3 cap3)) ∧ (w'.cell? ⟨k', 0, none⟩ = some (.int .u64 (b.length : Int)) ∧ w'.cell? ⟨k', 1, none⟩ = some (.slice a3 m3 cap3)))
        (first | (exact HF5.out.1 _ (Same.trans hO6 hO7)) | (exact HF5.out.1 _ hO6) | (exact HF5.out.1 _ (Only.drew (Only.refl _ V))))
        (first | ((go_at_call 13; (with_reducible refine (HF5.out.2.1 V _ (Only.refl _ _) (by first | exact (Only.refl _ V).drew | exact Only.refl _ V)).mono ?_); rintro e w6 ⟨rfl, hO6⟩)) | ((go_at_call 14; (with_reducible refine (HF5.out.2.2 w6 _ hO6 (Only.refl _ _)).mono ?_); rintro e w7 ⟨rfl, hO7⟩)))
      all_goals
        go_wp2
        go_ret
        exact ⟨by simp, Only.below (Same.trans HSV.out (Same.trans hO6 hO7)) (Nat.le_refl _) (fun _ _ => id)⟩
    · go_wp2_with fail
      refine (HB2.out b.length wc HTW.out.same).mono ?_
      rintro e w5 ⟨b5, a5, m5, cap5, hb5, rfl, hu5, hO5, hf5⟩
      have HT5 := Lib.hid (HTW.out.one.keep hO5)
      have HT5' := Lib.hid (HTW.out.two.keep hO5)
      have HU3 := Lib.hid (HTW.out.ru.keep hO5 (fun _ _ => id))
      have HU5 := Lib.hid hu5
      have HF5' := Lib.hid hf5
      have HO5 := Lib.hid hO5
      have hltk := HTW.out.two.lt
      clear x0 x1 x2 x3 z0 z1 z2 z3 o0 o1 hu5 hO5 hf5
      obtain ⟨z0, z1, z2, z3⟩ : w5.cell? ⟨k', 0, none⟩ = some (.int .u64 (b'.length : Int)) ∧ w5.cell? ⟨k', 1, none⟩ = some (.slice a4 m4 cap4) ∧ w5.frozen? ⟨k', 0, none⟩ = false ∧ w5.frozen? ⟨k', 1, none⟩ = false := ⟨HT5'.out.c0, HT5'.out.c1, HT5'.out.f0, HT5'.out.f1⟩
      go_wp2_with fail
      have HF5 := Lib.hid (fin_facts (HT5.out.far hne _ _) (HT5'.out.write) (HU3.out.keep (((Only.refl (fun j => j = k') w5).setCell _ _ (fun _ => rfl)).setCell _ _ (fun _ => rfl)) (fun j hj e => (HTW.out.far j (.inl hj)).2 e)) (HU5.out.keep (((Only.refl (fun j => j = k') w5).setCell _ _ (fun _ => rfl)).setCell _ _ (fun _ => rfl)) (fun j hj e => by have := (HF5'.out j hj).1; omega)) hbl (by omega))
      have HSV : Hid (Same w (((w5.setCell ⟨k', 0, none⟩ (.int .u64 (b5.length : Int))).setCell ⟨k', 1, none⟩ (.slice a5 m5 cap5)))) := Lib.hid ((by have h1 := HTW.out.new; have h2 := HS.out.size; exact (((Same.trans HWS.out HO5.out).setCell _ _ (fun h => absurd h (by simp; omega))).setCell _ _ (fun h => absurd h (by simp; omega)))))
      clear z0 z1 z2 z3
      generalize hV : ((w5.setCell ⟨k', 0, none⟩ (.int .u64 (b5.length : Int))).setCell ⟨k', 1, none⟩ (.slice a5 m5 cap5)) = V at *
      clear hV
      obtain ⟨⟨x0, x1⟩, ⟨z0, z1⟩⟩ := HF5.out.1 V (Only.refl _ _)
      go_region_held3 (fun w' => (w'.cell? ⟨k, 0, none⟩ = some (.int .u64 (b.length : Int)) ∧ w'.cell? ⟨k, 1, none⟩ = some (.slice a3 m3 cap3)) ∧ (w'.cell? ⟨k', 0, none⟩ = some (.int .u64 (b5.length : Int)) ∧ w'.cell? ⟨k', 1, none⟩ = some (.slice a5 m5 cap5)))
        (first | (exact HF5.out.1 _ (Same.trans hO6 hO7)) | (exact HF5.out.1 _ hO6) | (exact HF5.out.1 _ (Only.drew (Only.refl _ V))))
        (first | ((go_at_call 13; (with_reducible refine (HF5.out.2.1 V _ (Only.refl _ _) (by first | exact (Only.refl _ V).drew | exact Only.refl _ V)).mono ?_); rintro e w6 ⟨rfl, hO6⟩)) | ((go_at_call 14; (with_reducible refine (HF5.out.2.2 w6 _ hO6 (Only.refl _ _)).mono ?_); rintro e w7 ⟨rfl, hO7⟩)))
      all_goals
        go_wp2
        go_ret
        exact ⟨by simp, Only.below (Same.trans HSV.out (Same.trans hO6 hO7)) (Nat.le_refl _) (fun _ _ => id)⟩
    · obtain ⟨r, hr⟩ : ∃ r : Nat, 1 + p % 70 = r := ⟨_, rfl⟩
      have HLEN : Hid ((b.length : Int) + 1 + (p : Int) % 70 = ((b ++ List.replicate r false).length : Int)) := Lib.hid (by rw [List.length_append, List.length_replicate]; omega)
      have hrl : (b ++ List.replicate r false).length ≤ 1000 := by rw [List.length_append, List.length_replicate]; omega
      have HON := Lib.hid (ones_app b r)
      clear hr
      go_wp2_with fail
      rw [HLEN.out]
      generalize b ++ List.replicate r false = bl at *
      have HF5 := Lib.hid (fin_facts (HTW.out.one.far hne _ _) (HTW.out.two.write) (HTW.out.ru.keep (((Only.refl (fun j => j = k') wc).setCell _ _ (fun _ => rfl)).setCell _ _ (fun _ => rfl)) (fun j hj e => (HTW.out.far j (.inl hj)).2 e)) (by rw [HON.out]; exact HTW.out.ru.keep (((Only.refl (fun j => j = k') wc).setCell _ _ (fun _ => rfl)).setCell _ _ (fun _ => rfl)) (fun j hj e => (HTW.out.far j (.inl hj)).2 e)) hbl (by omega))
      have HSV : Hid (Same w (((wc.setCell ⟨k', 0, none⟩ (.int .u64 (bl.length : Int))).setCell ⟨k', 1, none⟩ (.slice a3 m3 cap3)))) := Lib.hid (HKW.out _ _)
      clear x0 x1 x2 x3 z0 z1 z2 z3 o0 o1
      generalize hV : ((wc.setCell ⟨k', 0, none⟩ (.int .u64 (bl.length : Int))).setCell ⟨k', 1, none⟩ (.slice a3 m3 cap3)) = V at *
      clear hV
      obtain ⟨⟨x0, x1⟩, ⟨z0, z1⟩⟩ := HF5.out.1 V (Only.refl _ _)
      go_region_held3 (fun w' => (w'.cell? ⟨k, 0, none⟩ = some (.int .u64 (b.length : Int)) ∧ w'.cell? ⟨k, 1, none⟩ = some (.slice a3 m3 cap3)) ∧ (w'.cell? ⟨k', 0, none⟩ = some (.int .u64 (bl.length : Int)) ∧ w'.cell? ⟨k', 1, none⟩ = some (.slice a3 m3 cap3)))
        (first | (exact HF5.out.1 _ (Same.trans hO6 hO7)) | (exact HF5.out.1 _ hO6) | (exact HF5.out.1 _ (Only.drew (Only.refl _ V))))
        (first | ((go_at_call 13; (with_reducible refine (HF5.out.2.1 V _ (Only.refl _ _) (by first | exact (Only.refl _ V).drew | exact Only.refl _ V)).mono ?_); rintro e w6 ⟨rfl, hO6⟩)) | ((go_at_call 14; (with_reducible refine (HF5.out.2.2 w6 _ hO6 (Only.refl _ _)).mono ?_); rintro e w7 ⟨rfl, hO7⟩)))
      all_goals
        go_wp2
        go_ret
        exact ⟨by simp, Only.below (Same.trans HSV.out (Same.trans hO6 hO7)) (Nat.le_refl _) (fun _ _ => id)⟩

theorem walk (W : World) (v0 v1 v2 v3 : Value) (r0 : Reads Try.prog W 25 v0) (r1 : Reads Try.prog W 25 v1) (r2 : Reads Try.prog W 5 v2) (r3 : Reads Try.prog W 5 v3) :
    Calls Try.prog 3 #[v0, v1, v2, v3] W fun e w' => e = .returned (.bool true) ∧ Below W.heap.size W w' := by
  obtain ⟨n, a, m, cap, zs, rfl, hr⟩ := Reads.bits r0
  obtain ⟨n', a', m', cap', zs', rfl, hr'⟩ := Reads.bits r1
  obtain ⟨h, rfl, hh⟩ := r2.int Try.underlying5
  have hh' := wf_u8 hh
  obtain ⟨H, rfl⟩ := Int.eq_ofNat_of_zero_le hh'.1
  obtain ⟨p, rfl, hp⟩ := r3.int Try.underlying5
  have hp' := wf_u8 hp
  obtain ⟨P, rfl⟩ := Int.eq_ofNat_of_zero_le hp'.1
  by_cases hm : m ≤ 2147483647
  · by_cases hm' : m' ≤ 2147483647
    · exact main n n' a a' m cap m' cap' zs zs' H P W hr hm hr' hm' (by omega) (by omega)
    · have HY := Lib.hid (fun wx => fits_yes (n : Int) a m cap wx hm)
      have HN := Lib.hid (fun wx => fits_no (n' : Int) a' m' cap' wx (by omega))
      clear r0 r1 r2 r3 hr hr' hh hh' hp hp'
      go_enter Try.func3, Try.ntmps3
      go_wp2_with fail
      refine (HY.out _).mono ?_
      rintro e w1 ⟨rfl, hO1⟩
      obtain ⟨hc, hf⟩ := kept hO1
      have hO1 := same_alloc (same_alloc hO1)
      simp at hc hf
      go_wp2_with fail
      refine (HN.out _).mono ?_
      rintro e w2 ⟨rfl, hO2⟩
      have HO2 := Lib.hid (Same.trans hO1 hO2)
      clear hO1 hO2 hc hf
      go_wp2_with fail
      go_ret
      exact ⟨rfl, Only.below HO2.out (Nat.le_refl _) (fun _ _ => id)⟩
  · have HN := Lib.hid (fun wx => fits_no (n : Int) a m cap wx (by omega))
    clear r0 r1 r2 r3 hr hr' hh hh' hp hp'
    go_enter Try.func3, Try.ntmps3
    go_wp2_with fail
    refine (HN.out _).mono ?_
    rintro e w1 ⟨rfl, hO1⟩
    have HO1 := Lib.hid (same_alloc (same_alloc hO1))
    clear hO1
    go_wp2_with fail
    go_ret
    exact ⟨rfl, Only.below HO1.out (Nat.le_refl _) (fun _ _ => id)⟩
end Go.Proofs.Ythnfoiaemeklnaa.walkFnBSEqual

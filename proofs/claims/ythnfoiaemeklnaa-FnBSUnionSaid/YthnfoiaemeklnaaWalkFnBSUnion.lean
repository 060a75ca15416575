/-
  FnBSUnion: the walk. The union has the bits that one of both has, in place as well; so many are counted. Printed by a program of mine.
-/
import Derived.Test.YthnfoiaemeklnaaBsTwo
import Derived.Test.YthnfoiaemeklnaaBsTwoS
import Derived.Test.YthnfoiaemeklnaaBsUnI
namespace Go.Proofs.Ythnfoiaemeklnaa.walkFnBSUnion
open Go.RowKit Go.Proofs.Ythnfoiaemeklnaa.base Go.Proofs.Ythnfoiaemeklnaa.heap Go.Proofs.Ythnfoiaemeklnaa.bit Go.Proofs.Ythnfoiaemeklnaa.bs
set_option linter.unusedVariables false

set_option maxRecDepth 100000 in
set_option maxHeartbeats 16000000 in
/-- behind the opening: the two bitsets stand in variables of their own -/
theorem body (b b' : List Bool) (a3 a4 : Option Addr) (m3 cap3 m4 cap4 : Nat) (wc : World) (hb : b.length ≤ 400) (hb' : b'.length ≤ 400) (r1 : RU wc a3 m3 cap3 (ones b)) (r2 : RU wc a4 m4 cap4 (ones b')) (d : List Bool) (hd : twoL (fun x y => x || y) b b' (max b.length b'.length) = d) :
    (∀ wx, Same wc wx → Calls Try.prog 15 #[.agg #[.int .u64 (b.length : Int), .slice a3 m3 cap3]] wx (FBools wx b)) ∧
    (∀ wx, Same wc wx → Calls Try.prog 15 #[.agg #[.int .u64 (b'.length : Int), .slice a4 m4 cap4]] wx (FBools wx b')) ∧
    (∀ a cap a' cap' wx, RB wx a b.length cap b → RB wx a' b'.length cap' b' → Calls Try.prog 40 #[.slice a b.length cap, .slice a' b'.length cap', .int .i64 0] wx fun e w' => ∃ a cap, e = .returned (.slice a (ones d).length cap) ∧ RU w' a (ones d).length cap (ones d) ∧ Same wx w') ∧
    (∀ wx, Same wc wx → Calls Try.prog 36 #[.agg #[.int .u64 (b.length : Int), .slice a3 m3 cap3], .agg #[.int .u64 (b'.length : Int), .slice a4 m4 cap4]] wx (FBits wx d)) ∧
    (∀ wx, Same wc wx → Calls Try.prog 43 #[.agg #[.int .u64 (b.length : Int), .slice a3 m3 cap3], .agg #[.int .u64 (b'.length : Int), .slice a4 m4 cap4]] wx (FBits wx d)) ∧
    (∀ wx, Same wc wx → Calls Try.prog 44 #[.agg #[.int .u64 (b.length : Int), .slice a3 m3 cap3], .agg #[.int .u64 (b'.length : Int), .slice a4 m4 cap4]] wx (FV wx (.int .u64 ((ones d).length : Int)))) := by
  have k1 : ∀ wx, Same wc wx → BV wx (.agg #[.int .u64 (b.length : Int), .slice a3 m3 cap3]) b := fun wx hx => BV.mk (r1.keep hx (fun _ _ => id))
  have k2 : ∀ wx, Same wc wx → BV wx (.agg #[.int .u64 (b'.length : Int), .slice a4 m4 cap4]) b' := fun wx hx => BV.mk (r2.keep hx (fun _ _ => id))
  refine ⟨fun wx hx => fbools (Only.refl _ _) (bsBools _ b wx (k1 wx hx) (by omega)), fun wx hx => fbools (Only.refl _ _) (bsBools _ b' wx (k2 wx hx) (by omega)), fun a cap a' cap' wx h h' => ?_, fun wx hx => ?_, fun wx hx => ?_, fun wx hx => ?_⟩
  · have := bsTwo0 a a' cap cap' b b' wx h h' (by omega) (by omega)
    rw [hd] at this
    exact this.mono fun e w' ⟨a, cap, he, hu, hO, _⟩ => ⟨a, cap, he, hu, hO⟩
  · rw [← hd]; exact fbits (Only.refl _ _) (implUnion _ _ b b' wx (k1 wx hx) (k2 wx hx) (by omega) (by omega))
  · rw [← hd]; exact fbits (Only.refl _ _) (implInPlaceUnion _ _ b b' wx (k1 wx hx) (k2 wx hx) (by omega) (by omega))
  · rw [← hd]; exact fv (Only.refl _ _) (implUnionCardinality _ _ b b' wx (k1 wx hx) (k2 wx hx) (by omega) (by omega))

set_option maxRecDepth 100000 in
set_option maxHeartbeats 16000000 in
theorem main (n n' : Nat) (a a' : Option Addr) (m cap m' cap' : Nat) (zs zs' : List Int) (w : World) (hr : IsRow .u64 w a m cap zs) (hm : m ≤ 2147483647) (hr' : IsRow .u64 w a' m' cap' zs') (hm' : m' ≤ 2147483647) :
    Calls Try.prog 10 #[.agg #[.int .u64 (n : Int), .slice a m cap], .agg #[.int .u64 (n' : Int), .slice a' m' cap']] w fun e w' => e = .returned (.bool true) ∧ Below w.heap.size w w' := by
  have HRow := Lib.hid hr
  have HRow' := Lib.hid hr'
  clear hr hr'
  go_enter Try.func10, Try.ntmps10
  go_wp2_with fail
  obtain ⟨W, hW⟩ : ∃ W, W = (w.alloc (.cells #[.int .u64 (n : Int), .slice a m cap] 25)).alloc (.cells #[.int .u64 (n' : Int), .slice a' m' cap'] 25) := ⟨_, rfl⟩
  have hS : Same w W := by rw [hW]; exact ((Only.refl _ w).alloc _).alloc _
  have hA : W.heap[w.heap.size]? = some (.cells #[.int .u64 (n : Int), .slice a m cap] 25 (0, 0)) := by
    rw [hW, Below.heap_alloc _ _ _ (by simp)]; exact heap_alloc_new _ _
  have hB : W.heap[w.heap.size + 1]? = some (.cells #[.int .u64 (n' : Int), .slice a' m' cap'] 25 (0, 0)) := by
    rw [hW]; exact heap_alloc_new' _ _ _ (by simp)
  rw [← hW]
  have HK : Hid (∀ wx, Same W wx → wx.cell? ⟨w.heap.size, 0, none⟩ = some (.int .u64 (n : Int)) ∧ wx.cell? ⟨w.heap.size, 1, none⟩ = some (.slice a m cap) ∧ wx.cell? ⟨w.heap.size + 1, 0, none⟩ = some (.int .u64 (n' : Int)) ∧ wx.cell? ⟨w.heap.size + 1, 1, none⟩ = some (.slice a' m' cap')) := Lib.hid (fun wx hx =>
    ⟨block_cell (still hx hA) rfl, block_cell (still hx hA) rfl, block_cell (still hx hB) rfl, block_cell (still hx hB) rfl⟩)
  have HF : Hid (∀ wx, Same W wx → Calls Try.prog 11 #[.agg #[.int .u64 (n : Int), .slice a m cap]] wx (FV wx (.bool true))) := Lib.hid (fun wx hx => fv (Only.refl _ _) (fits_yes _ _ _ _ _ hm))
  have HF' : Hid (∀ wx, Same W wx → Calls Try.prog 11 #[.agg #[.int .u64 (n' : Int), .slice a' m' cap']] wx (FV wx (.bool true))) := Lib.hid (fun wx hx => fv (Only.refl _ _) (fits_yes _ _ _ _ _ hm'))
  have HB : Hid (∀ w0 wx, Same W w0 → Same w0 wx → Calls Try.prog 12 #[.agg #[.int .u64 (n : Int), .slice a m cap]] wx (FSome2 wx)) := Lib.hid (fun w0 wx h0 hx => fsome2 (IsRow.keep HRow.out (hS.trans (h0.trans hx))) hm)
  have HB' : Hid (∀ w0 wx, Same W w0 → Same w0 wx → Calls Try.prog 12 #[.agg #[.int .u64 (n' : Int), .slice a' m' cap']] wx (FSome2 wx)) := Lib.hid (fun w0 wx h0 hx => fsome2 (IsRow.keep HRow'.out (hS.trans (h0.trans hx))) hm')
  have HB2 : Hid (∀ (x : Nat) wx, Same W wx → Calls Try.prog 12 #[.agg #[.int .u64 (x : Int), .slice a' m' cap']] wx (FSome2 wx)) := Lib.hid (fun x wx hx => fsome2 (IsRow.keep HRow'.out (hS.trans hx)) hm')
  have HS := Lib.hid hS
  have HBB := Lib.hid hB
  clear hW hS hA hB
  refine (HF.out W (Only.refl _ _)).mono ?_
  rintro e w1 ⟨rfl, hO1⟩
  obtain ⟨d0, d1, e0, e1⟩ := HK.out w1 hO1
  go_wp2_with fail
  refine (HF'.out w1 hO1).mono ?_
  rintro e w2 ⟨rfl, hO2⟩
  have hO2 := Same.trans hO1 hO2
  clear d0 d1 e0 e1 hO1
  obtain ⟨d0, d1, e0, e1⟩ := HK.out w2 hO2
  have hsz2 : w.heap.size + 1 < w2.heap.size := by
    have h1 := HS.out.size
    have := lt_of_heap HBB.out
    have := hO2.size
    omega
  have HO2 := Lib.hid hO2
  clear hO2
  go_upto_region 3 with fail
  go_cut [5, 6] (fun s s' wx => TwoV W s s' wx)
  case first =>
    go_region_held3 (fun w' => w'.cell? ⟨w.heap.size, 0, none⟩ = some (.int .u64 (n : Int)) ∧ w'.cell? ⟨w.heap.size, 1, none⟩ = some (.slice a m cap) ∧ w'.cell? ⟨w.heap.size + 1, 0, none⟩ = some (.int .u64 (n' : Int)) ∧ w'.cell? ⟨w.heap.size + 1, 1, none⟩ = some (.slice a' m' cap'))
      (first | (refine HK.out _ ?_; repeat (first | exact HO2.out | refine Only.alloc ?_ _ | refine Only.drew ?_ | refine Same.trans ?_ hO4 | refine Same.trans ?_ hO3 | refine Only.setCell ?_ _ _ (fun h => absurd h (by have := HO2.out.size; simp; omega)))) | go_keep)
      (first | ((go_at_call 12; (with_reducible refine (HB.out _ _ (by repeat (first | exact HO2.out | refine Only.alloc ?_ _ | refine Only.drew ?_)) (Only.refl _ _)).mono ?_); rintro e w3 ⟨b, a3, m3, cap3, hb4, rfl, hu3, hO3, hf3⟩; obtain ⟨hc3, hg3⟩ := kept hO3; have hz3 := hO3.size; (try simp at hc3); (try simp at hg3); (try simp at hz3); (try simp at hf3); (first | (have qa : w2.heap.size + 2 ≤ w3.heap.size := (by omega); obtain ⟨ya1, ya2, ya3, ya4, ya5, ya6⟩ := lt_two qa) | (have qa : w2.heap.size + 1 ≤ w3.heap.size := (by omega); obtain ⟨ya1, ya2, ya3, ya4, ya5⟩ := lt_one qa) | skip))) | ((go_at_call 12; (with_reducible refine (HB'.out _ _ (by repeat (first | exact HO2.out | refine Only.alloc ?_ _ | refine Only.drew ?_ | refine Same.trans ?_ hO3)) (Only.refl _ _)).mono ?_); rintro e w4 ⟨b', a4, m4, cap4, hb4', rfl, hu4, hO4, hf4⟩; obtain ⟨hc4, hg4⟩ := kept hO4; have hz4 := hO4.size; (try simp at hc4); (try simp at hg4); (try simp at hz4); (try simp at hf4); (first | (have qb : w2.heap.size + 2 ≤ w4.heap.size := (by omega); obtain ⟨yb1, yb2, yb3, yb4, yb5, yb6⟩ := lt_two qb) | (have qb : w2.heap.size + 1 ≤ w4.heap.size := (by omega); obtain ⟨yb1, yb2, yb3, yb4, yb5⟩ := lt_one qb) | skip); (first | (have qc : w3.heap.size + 2 ≤ w4.heap.size := (by omega); obtain ⟨yc1, yc2, yc3, yc4, yc5, yc6⟩ := lt_two qc) | (have qc : w3.heap.size + 1 ≤ w4.heap.size := (by omega); obtain ⟨yc1, yc2, yc3, yc4, yc5⟩ := lt_one qc) | skip))))
    all_goals
      have hWs := HO2.out.size
      clear hc3 hg3 hc4 hg4 d0 d1 e0 e1 HB HB' HF HF' HRow HRow' HK
      go_wp2
      go_meet
      case rel =>
        refine ⟨_, _, b, b', a3, a4, m3, cap3, m4, cap4, rfl, rfl, ?_⟩
        have q4 : Same w4 w4 := Only.refl _ _
        have q3 : Same w3 w4 := by repeat (first | (with_reducible exact Only.refl _ _) | (with_reducible exact HO2.out) | (with_reducible refine Only.alloc ?_ _) | (with_reducible refine only_then ?_ hO4) | (with_reducible refine only_then ?_ hO3) | (with_reducible refine Only.drew ?_))
        have qs : Same W w4 := by repeat (first | (with_reducible exact Only.refl _ _) | (with_reducible exact HO2.out) | (with_reducible refine Only.alloc ?_ _) | (with_reducible refine only_then ?_ hO4) | (with_reducible refine only_then ?_ hO3) | (with_reducible refine Only.drew ?_))
        have hlt3 : ∀ j, At a3 j → j < w4.heap.size := fun j hj => by have := hf3 j hj; omega
        have hlt4 : ∀ j, At a4 j → j < w4.heap.size := fun j hj => (hf4 j hj).2
        first
        | exact Two.ofA hu3 hu4 hb4 hb4' q3 q4 qs hlt3 hlt4
        | exact (Two.ofA hu4 hu3 hb4' hb4 q4 q3 qs hlt4 hlt3).symm
        | (refine Two.ofB (x0 := .int .u64 0) (x1 := .slice none 0 0) hu3 hu4 hb4 hb4' q3 q4 qs (fun j hj => ?_) (fun j hj => ?_) ?_ ?_
           · have := hf3 j hj; omega
           · have := hf4 j hj; omega
           · repeat (first | exact heap_alloc_second _ _ _ | ((with_reducible refine heap_alloc_new' _ _ _ ?_); (first | rfl | (simp; done) | omega); done) | (with_reducible refine obj_then hO4 ?_) | (with_reducible refine obj_then hO3 ?_) | (with_reducible refine obj_drew ?_) | ((with_reducible refine obj_alloc ?_ ?_); (first | omega | (simp; done) | (simp; omega))))
           · omega)
        | (refine (Two.ofB (x0 := .int .u64 0) (x1 := .slice none 0 0) hu4 hu3 hb4' hb4 q4 q3 qs (fun j hj => ?_) (fun j hj => ?_) ?_ ?_).symm
           · have := hf4 j hj; omega
           · have := hf3 j hj; omega
           · repeat (first | exact heap_alloc_second _ _ _ | ((with_reducible refine heap_alloc_new' _ _ _ ?_); (first | rfl | (simp; done) | omega); done) | (with_reducible refine obj_then hO4 ?_) | (with_reducible refine obj_then hO3 ?_) | (with_reducible refine obj_drew ?_) | ((with_reducible refine obj_alloc ?_ ?_); (first | omega | (simp; done) | (simp; omega))))
           · omega)
        | (refine Two.of4 (w3 := w3) (w4 := w4) (x0 := .int .u64 0) (x1 := .slice none 0 0) (y0 := .int .u64 0) (y1 := .slice none 0 0) hu3 hu4 hb4 hb4' q3 q4 qs ?_ ?_ ?_ (fun j hj => ?_) ?_ ?_
           · repeat (first | exact heap_alloc_second _ _ _ | ((with_reducible refine heap_alloc_new' _ _ _ ?_); (first | rfl | (simp; done) | omega); done) | (with_reducible refine obj_then hO4 ?_) | (with_reducible refine obj_then hO3 ?_) | (with_reducible refine obj_drew ?_) | ((with_reducible refine obj_alloc ?_ ?_); (first | omega | (simp; done) | (simp; omega))))
           · repeat (first | exact heap_alloc_second _ _ _ | ((with_reducible refine heap_alloc_new' _ _ _ ?_); (first | rfl | (simp; done) | omega); done) | (with_reducible refine obj_then hO4 ?_) | (with_reducible refine obj_then hO3 ?_) | (with_reducible refine obj_drew ?_) | ((with_reducible refine obj_alloc ?_ ?_); (first | omega | (simp; done) | (simp; omega))))
           · omega
           · rcases hj with hj | hj
             · have := hf3 j hj; omega
             · have := hf4 j hj; omega
           · omega
           · omega)
  case rest =>
    obtain ⟨k, k', b, b', a3, a4, m3, cap3, m4, cap4, rfl, rfl, htwo⟩ := hcut
    clear d0 d1 e0 e1
    obtain ⟨d, hd⟩ : ∃ d, twoL (fun x y => x || y) b b' (max b.length b'.length) = d := ⟨_, rfl⟩
    have hdl : d.length ≤ 1000 := by have := htwo.le; rw [← hd, twoL_len]; omega
    have HBODY := Lib.hid (body b b' a3 a4 m3 cap3 m4 cap4 wc htwo.le.1 htwo.le.2 htwo.ru htwo.ru' d hd)
    have HC : Hid (∀ wx, Same wc wx → (wx.cell? ⟨k, 0, none⟩ = some (.int .u64 (b.length : Int)) ∧ wx.cell? ⟨k, 1, none⟩ = some (.slice a3 m3 cap3)) ∧ (wx.cell? ⟨k', 0, none⟩ = some (.int .u64 (b'.length : Int)) ∧ wx.cell? ⟨k', 1, none⟩ = some (.slice a4 m4 cap4))) := Lib.hid (fun wx hx =>
      ⟨⟨(htwo.one.keep hx).c0, (htwo.one.keep hx).c1⟩, ⟨(htwo.two.keep hx).c0, (htwo.two.keep hx).c1⟩⟩)
    have HWC : Hid (Same w wc) := Lib.hid (Same.trans HS.out htwo.same)
    have hol := ones_le d
    have HC1 := Lib.hid HBODY.out.1
    have HC2 := Lib.hid HBODY.out.2.1
    have HC3 := Lib.hid HBODY.out.2.2.1
    have HC4 := Lib.hid HBODY.out.2.2.2.1
    have HC5 := Lib.hid HBODY.out.2.2.2.2.1
    have HC6 := Lib.hid HBODY.out.2.2.2.2.2
    clear htwo hd HBODY HK HB HB' HB2 HF HF' HS HRow HRow' HO2 HBB
    obtain ⟨⟨x0, x1⟩, ⟨z0, z1⟩⟩ := HC.out wc (Only.refl _ _)
    go_wp2_with fail
    go_region_held3 (fun w' => (w'.cell? ⟨k, 0, none⟩ = some (.int .u64 (b.length : Int)) ∧ w'.cell? ⟨k, 1, none⟩ = some (.slice a3 m3 cap3)) ∧ (w'.cell? ⟨k', 0, none⟩ = some (.int .u64 (b'.length : Int)) ∧ w'.cell? ⟨k', 1, none⟩ = some (.slice a4 m4 cap4)))
      (first | exact HC.out _ (Only.drew (Only.refl _ _)) | exact HC.out _ (by assumption))
      (first
        | ((go_at_call 15; (with_reducible refine (HC1.out _ (by first | exact (Only.refl _ wc).drew | exact Only.refl _ wc)).mono ?_); rintro e w11 ⟨a11, cap11, rfl, hb11, hO11'⟩; have hO11 : Same wc w11 := Same.trans (by first | exact (Only.refl _ wc).drew | exact Only.refl _ wc) hO11'))
        | ((go_at_call 15; (with_reducible refine (HC2.out _ hO11).mono ?_); rintro e w12 ⟨a12, cap12, rfl, hb12, hO12'⟩; have hO12 := Same.trans hO11 hO12'))
        | ((go_at_call 40; (with_reducible refine (HC3.out _ _ _ _ _ (hb11.keep hO12' (fun _ _ => id)) hb12).mono ?_); rintro e w13 ⟨a13, cap13, rfl, hu13, hO13'⟩; have hO13 := Same.trans hO12 hO13')))
    have HU13 := Lib.hid hu13
    have HO13 := Lib.hid hO13
    clear hu13 hO13 hO13' hO12 hO12' hO11 hO11' hb11 hb12 x0 x1 z0 z1 HC1 HC2 HC3
    generalize hE : (ones d).length = E at *
    obtain ⟨⟨x0, x1⟩, ⟨z0, z1⟩⟩ := HC.out w13 HO13.out
    have HE := Lib.hid hE
    clear hE
    have hwr : IntKind.u64.wrap (E : Int) = (E : Int) := by rw [IntKind.wrap_u64]; omega
    go_wp2_with fail
    refine (HC4.out w13 HO13.out).mono ?_
    rintro e w14 ⟨a14, m14, cap14, rfl, hu14, hO14⟩
    have HU14 := Lib.hid hu14
    have HO14 : Hid (Same w13 w14) := Lib.hid hO14
    clear hu14 hO14 x0 x1 z0 z1
    go_wp2_with fail
    refine (bsIn_yes _ d _ _ _ w14 w14 (Only.refl _ _) (BV.mk HU14.out) (HU13.out.keep HO14.out (fun _ _ => id)) (by omega)).mono ?_
    rintro e w15 ⟨rfl, hO15⟩
    have HO15 : Hid (Same w13 w15) := Lib.hid (Same.trans HO14.out hO15)
    have HO15' : Hid (Same wc w15) := Lib.hid (Same.trans HO13.out HO15.out)
    clear hO15 HU14 HO14
    obtain ⟨⟨x0, x1⟩, ⟨z0, z1⟩⟩ := HC.out w15 HO15'.out
    go_wp2_with fail
    refine (HC5.out w15 HO15'.out).mono ?_
    rintro e w16 ⟨a16, m16, cap16, rfl, hu16, hO16⟩
    have HU16 := Lib.hid hu16
    have HO16 : Hid (Same w13 w16) := Lib.hid (Same.trans HO15.out hO16)
    clear hu16 hO16 x0 x1 z0 z1
    go_wp2_with fail
    refine (bsIn_yes _ d _ _ _ w16 w16 (Only.refl _ _) (BV.mk HU16.out) (HU13.out.keep HO16.out (fun _ _ => id)) (by omega)).mono ?_
    rintro e w17 ⟨rfl, hO17⟩
    have HO17 : Hid (Same wc w17) := Lib.hid (Same.trans HO13.out (Same.trans HO16.out hO17))
    clear hO17 HU16 HO16
    obtain ⟨⟨x0, x1⟩, ⟨z0, z1⟩⟩ := HC.out w17 HO17.out
    go_wp2_with fail
    refine (HC6.out w17 HO17.out).mono ?_
    rintro e w18 ⟨rfl, hO18⟩
    have HO18 : Hid (Same w w18) := Lib.hid (Same.trans HWC.out (Same.trans HO17.out hO18))
    clear hO18 x0 x1 z0 z1
    go_wp2_with fail
    go_ret
    exact ⟨by simp, Only.below HO18.out (Nat.le_refl _) (fun _ _ => id)⟩

theorem walk (W : World) (v0 v1 : Value) (r0 : Reads Try.prog W 25 v0) (r1 : Reads Try.prog W 25 v1) :
    Calls Try.prog 10 #[v0, v1] W fun e w' => e = .returned (.bool true) ∧ Below W.heap.size W w' := by
  obtain ⟨n, a, m, cap, zs, rfl, hr⟩ := Reads.bits r0
  obtain ⟨n', a', m', cap', zs', rfl, hr'⟩ := Reads.bits r1
  by_cases hm : m ≤ 2147483647
  · by_cases hm' : m' ≤ 2147483647
    · exact main n n' a a' m cap m' cap' zs zs' W hr hm hr' hm'
    · have HY := Lib.hid (fun wx => fits_yes (n : Int) a m cap wx hm)
      have HN := Lib.hid (fun wx => fits_no (n' : Int) a' m' cap' wx (by omega))
      clear r0 r1 hr hr'
      go_enter Try.func10, Try.ntmps10
      go_wp2_with fail
      refine (HY.out _).mono ?_
      rintro e w1 ⟨rfl, hO1⟩
      obtain ⟨hc, hf⟩ := kept hO1
      have hO1 := same_alloc (same_alloc hO1)
      simp at hc hf
      go_wp2_with fail
      refine (HN.out _).mono ?_
      rintro e w2 ⟨rfl, hO2⟩
      have HO2 := Lib.hid (Same.trans hO1 hO2)
      clear hO1 hO2 hc hf
      go_wp2_with fail
      go_ret
      exact ⟨rfl, Only.below HO2.out (Nat.le_refl _) (fun _ _ => id)⟩
  · have HN := Lib.hid (fun wx => fits_no (n : Int) a m cap wx (by omega))
    clear r0 r1 hr hr'
    go_enter Try.func10, Try.ntmps10
    go_wp2_with fail
    refine (HN.out _).mono ?_
    rintro e w1 ⟨rfl, hO1⟩
    have HO1 := Lib.hid (same_alloc (same_alloc hO1))
    clear hO1
    go_wp2_with fail
    go_ret
    exact ⟨rfl, Only.below HO1.out (Nat.le_refl _) (fun _ _ => id)⟩
end Go.Proofs.Ythnfoiaemeklnaa.walkFnBSUnion

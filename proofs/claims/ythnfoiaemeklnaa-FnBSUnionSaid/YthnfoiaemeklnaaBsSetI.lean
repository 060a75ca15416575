/-
  The thin package: Complement, SetAll, Union, Intersection, Difference. Printed by a program of mine.
-/
import Derived.Test.YthnfoiaemeklnaaBsComp
import Derived.Test.YthnfoiaemeklnaaBsSet64
import Derived.Deep.RegionHeld3
namespace Go.Proofs.Ythnfoiaemeklnaa.bs
open Go.RowKit Go.Proofs.Ythnfoiaemeklnaa.base Go.Proofs.Ythnfoiaemeklnaa.heap Go.Proofs.Ythnfoiaemeklnaa.bit
set_option linter.unusedVariables false

set_option maxRecDepth 100000 in
set_option maxHeartbeats 800000 in
theorem implComplement (v : Value) (b : List Bool)  (w : World) (h : BV w v b) (hn : b.length ≤ 1048000)  :
    Calls Try.prog 34 #[v] w (RetBits (notL b) w) := by
  have hlen : ((notL b)).length ≤ 1048576 := by rw [notL_len]; omega
  obtain ⟨a, m, cap, rfl, hr⟩ := h
  have hW : Only (fun _ => False) w ((w.alloc (.cells #[.int .u64 (b.length : Int), .slice a m cap] 25)).alloc (.cells #[.int .u64 0, .slice none 0 0] 25)) := ((Only.refl _ w).alloc _).alloc _
  have hres : ((w.alloc (.cells #[.int .u64 (b.length : Int), .slice a m cap] 25)).alloc (.cells #[.int .u64 0, .slice none 0 0] 25)).heap[w.heap.size + 1]? = some (.cells #[.int .u64 0, .slice none 0 0] 25 (0, 0)) := heap_alloc_new' _ _ _ (by simp)
  have HS := Lib.hid (set64 (.agg #[.int .u64 (b.length : Int), .slice a m cap]) b _ ⟨a, m, cap, rfl, hr.keep hW (fun _ _ => id)⟩ (by omega))
  have HW := Lib.hid hW
  have HR := Lib.hid hres
  clear hr hW hres
  go_enter Try.func34, Try.ntmps34
  go_wp2_with fail
  refine HS.out.mono ?_
  rintro e w1 ⟨o, rfl, hok, hrep, hm, hO1, hf1⟩
  have hw1 : ∀ k, o.foot k → w.heap.size + 1 + 1 ≤ k := fun k hk => by have := hf1 k hk; simp at this; omega
  have HO1 := Lib.hid hO1
  have HF1 := Lib.hid hf1
  have HM := Lib.hid hm
  clear hO1 hf1 hw1 hm
  go_wp2_with fail
  refine (complement o b _ hok hrep HM.out hn).mono ?_
  rintro e w2 ⟨o', rfl, hok', hrep', hm', hO2, hf2⟩
  have HS2 := Lib.hid (said64 o' _ w2 hok' hrep' hlen)
  have HO2 := Lib.hid hO2
  clear hok' hrep' hO2 hf2 hok hrep hm'
  go_wp2_with fail
  refine HS2.out.mono ?_
  rintro e w3 ⟨a3, m3, cap3, rfl, hu3, hO3, hf3⟩
  have HT := Lib.hid (told_mk (S := fun _ => False) HW.out (Nat.le_succ _) HR.out HO1.out (fun _ f => f.elim) HO2.out hO3 hu3 hf3)
  have r0 : w3.cell? ⟨w.heap.size + 1, 0, none⟩ = some (.int .u64 0) := block_cell HT.out.res rfl
  have r1 : w3.cell? ⟨w.heap.size + 1, 1, none⟩ = some (.slice none 0 0) := block_cell HT.out.res rfl
  have rf0 : w3.frozen? ⟨w.heap.size + 1, 0, none⟩ = false := block_free HT.out.res
  have rf1 : w3.frozen? ⟨w.heap.size + 1, 1, none⟩ = false := block_free HT.out.res
  clear hu3 hO3 hf3
  go_wp2_with fail
  refine bodyPost_ret (v := .agg #[.int .u64 (((notL b)).length : Int), .slice a3 m3 cap3]) ?_ rfl HT.out.ret
  simp [results, Try.results34, go_sem, r0, r1]

set_option maxRecDepth 100000 in
set_option maxHeartbeats 800000 in
theorem implSetAll (v : Value) (b : List Bool)  (w : World) (h : BV w v b) (hn : b.length ≤ 1048000)  :
    Calls Try.prog 39 #[v] w (RetBits (List.replicate b.length true) w) := by
  obtain ⟨d, hd⟩ : ∃ d, List.replicate b.length true = d := ⟨_, rfl⟩
  have hlen : d.length ≤ 1048576 := by rw [← hd, List.length_replicate]; omega
  rw [hd]
  have HD := Lib.hid hd
  clear hd
  obtain ⟨a, m, cap, rfl, hr⟩ := h
  have hW : Only (fun _ => False) w ((w.alloc (.cells #[.int .u64 (b.length : Int), .slice a m cap] 25)).alloc (.cells #[.int .u64 0, .slice none 0 0] 25)) := ((Only.refl _ w).alloc _).alloc _
  have hres : ((w.alloc (.cells #[.int .u64 (b.length : Int), .slice a m cap] 25)).alloc (.cells #[.int .u64 0, .slice none 0 0] 25)).heap[w.heap.size + 1]? = some (.cells #[.int .u64 0, .slice none 0 0] 25 (0, 0)) := heap_alloc_new' _ _ _ (by simp)
  have HS := Lib.hid (set64 (.agg #[.int .u64 (b.length : Int), .slice a m cap]) b _ ⟨a, m, cap, rfl, hr.keep hW (fun _ _ => id)⟩ (by omega))
  have HW := Lib.hid hW
  have HR := Lib.hid hres
  clear hr hW hres
  go_enter Try.func39, Try.ntmps39
  go_wp2_with fail
  refine HS.out.mono ?_
  rintro e w1 ⟨o, rfl, hok, hrep, hm, hO1, hf1⟩
  have hw1 : ∀ k, o.foot k → w.heap.size + 1 + 1 ≤ k := fun k hk => by have := hf1 k hk; simp at this; omega
  have HO1 := Lib.hid hO1
  have HF1 := Lib.hid hf1
  have HM := Lib.hid hm
  clear hO1 hf1 hw1 hm
  go_wp2_with fail
  refine (setAll o b _ hok hrep HM.out hn).mono ?_
  rintro e w2 ⟨rfl, o', hp', hok', hrep', hO2, hf2⟩
  rw [HD.out] at hrep'
  have HS2 := Lib.hid (said64_at o o' _ w2 hp' hok' hrep' hlen)
  have HO2 := Lib.hid hO2
  clear hp' hok' hrep' hO2 hf2 hok hrep
  go_wp2_with fail
  refine HS2.out.mono ?_
  rintro e w3 ⟨a3, m3, cap3, rfl, hu3, hO3, hf3⟩
  have HT := Lib.hid (told_mk HW.out (Nat.le_succ _) HR.out HO1.out HF1.out HO2.out hO3 hu3 hf3)
  have r0 : w3.cell? ⟨w.heap.size + 1, 0, none⟩ = some (.int .u64 0) := block_cell HT.out.res rfl
  have r1 : w3.cell? ⟨w.heap.size + 1, 1, none⟩ = some (.slice none 0 0) := block_cell HT.out.res rfl
  have rf0 : w3.frozen? ⟨w.heap.size + 1, 0, none⟩ = false := block_free HT.out.res
  have rf1 : w3.frozen? ⟨w.heap.size + 1, 1, none⟩ = false := block_free HT.out.res
  clear hu3 hO3 hf3
  go_wp2_with fail
  refine bodyPost_ret (v := .agg #[.int .u64 (d.length : Int), .slice a3 m3 cap3]) ?_ rfl HT.out.ret
  simp [results, Try.results39, go_sem, r0, r1]

set_option maxRecDepth 100000 in
set_option maxHeartbeats 1600000 in
theorem implUnion (v v' : Value) (b b' : List Bool) (w : World) (h : BV w v b) (h' : BV w v' b') (hn : b.length ≤ 1048000) (hn' : b'.length ≤ 1048000) :
    Calls Try.prog 36 #[v, v'] w (RetBits (twoL (fun x y => x || y) b b' (max b.length b'.length)) w) := by
  obtain ⟨a, m, cap, a', m', cap', rfl, rfl, hall⟩ := twoBoxes h h' hn hn'
  have HALL := Lib.hid hall
  clear hall h h'
  obtain ⟨d, hd⟩ : ∃ d, twoL (fun x y => x || y) b b' (max b.length b'.length) = d := ⟨_, rfl⟩
  have hdl : d.length ≤ 1048000 := by rw [← hd, twoL_len]; omega
  have HD := Lib.hid hd
  go_enter Try.func36, Try.ntmps36
  go_wp2_with fail
  obtain ⟨V, hV⟩ : ∃ V, V = (w.alloc (.cells #[.int .u64 (b.length : Int), .slice a m cap] 25)).alloc (.cells #[.int .u64 (b'.length : Int), .slice a' m' cap'] 25) := ⟨_, rfl⟩
  obtain ⟨hS, hK, h1, h2⟩ := HALL.out V hV
  rw [← hV]
  have hVs : V.heap.size = w.heap.size + 1 + 1 := by rw [hV]; simp
  obtain ⟨W, hW, hSW, hBW, hkW⟩ := newBlock V #[.int .u64 0, .slice none 0 0] 25
  have hres : W.heap[w.heap.size + 1 + 1]? = some (.cells #[.int .u64 0, .slice none 0 0] 25 (0, 0)) := by rw [← hVs]; exact hBW
  try rw [hVs]
  rw [← hW]
  have HS0 : Hid (Same w W) := Lib.hid (Same.trans hS hSW)
  have HRES := Lib.hid hres
  have HK : Hid (∀ wx, Same W wx → wx.cell? ⟨w.heap.size, 0, none⟩ = some (.int .u64 (b.length : Int)) ∧ wx.cell? ⟨w.heap.size, 1, none⟩ = some (.slice a m cap) ∧ wx.cell? ⟨w.heap.size + 1, 0, none⟩ = some (.int .u64 (b'.length : Int)) ∧ wx.cell? ⟨w.heap.size + 1, 1, none⟩ = some (.slice a' m' cap')) := Lib.hid (fun wx hx => hK wx (Same.trans hSW hx))
  have HK2 : Hid (∀ wx, Same W wx → ∀ x y, (((wx.setCell ⟨w.heap.size + 1 + 1, 0, none⟩ x).setCell ⟨w.heap.size + 1 + 1, 1, none⟩ y)).cell? ⟨w.heap.size, 0, none⟩ = some (.int .u64 (b.length : Int)) ∧ (((wx.setCell ⟨w.heap.size + 1 + 1, 0, none⟩ x).setCell ⟨w.heap.size + 1 + 1, 1, none⟩ y)).cell? ⟨w.heap.size, 1, none⟩ = some (.slice a m cap) ∧ (((wx.setCell ⟨w.heap.size + 1 + 1, 0, none⟩ x).setCell ⟨w.heap.size + 1 + 1, 1, none⟩ y)).cell? ⟨w.heap.size + 1, 0, none⟩ = some (.int .u64 (b'.length : Int)) ∧ (((wx.setCell ⟨w.heap.size + 1 + 1, 0, none⟩ x).setCell ⟨w.heap.size + 1 + 1, 1, none⟩ y)).cell? ⟨w.heap.size + 1, 1, none⟩ = some (.slice a' m' cap')) := Lib.hid (fun wx hx x y => by
    obtain ⟨k0, k1, k2, k3⟩ := HK.out wx hx
    refine ⟨?_, ?_, ?_, ?_⟩
    all_goals rw [World.cell?_setCell_other (h := fun e => by injection e with e; omega), World.cell?_setCell_other (h := fun e => by injection e with e; omega)]
    · exact k0
    · exact k1
    · exact k2
    · exact k3)
  have H1 : Hid (∀ wx, Same W wx → Calls Try.prog 45 #[.agg #[.int .u64 (b.length : Int), .slice a m cap]] wx (FObj W b)) := Lib.hid (fun wx hx => (h1 W wx hSW hx))
  have H2 : Hid (∀ w0 wx, Same W w0 → Same w0 wx → Calls Try.prog 45 #[.agg #[.int .u64 (b'.length : Int), .slice a' m' cap']] wx (FObj w0 b')) := Lib.hid (fun w0 wx h0 hx => (h2 w0 wx (Same.trans hSW h0) hx))
  obtain ⟨d0, d1, e0, e1⟩ := HK.out W (Only.refl _ _)
  clear hW hS hK h1 h2 HALL hd hSW hBW hkW hres hVs hV
  have H3 : Hid (∀ (o1 o2 : O) wx, Same W wx → o1.ok wx → o2.ok wx → o1.rep b → o2.rep b' → o1.m = (b.length + 63) / 64 → o2.m = (b'.length + 63) / 64 → Calls Try.prog 61 #[o1.ptr, o2.ptr] wx (FObj W d)) := Lib.hid (fun o1 o2 wx hx k1 k2 r1 r2 t1 t2 => by
    rw [← HD.out]
    exact (union o1 o2 b b' wx k1 k2 r1 r2 t1 t2 hn hn').mono (fun e w' ⟨o, he, hok, hr, hm, hO, hf⟩ => ⟨o, he, hok, hr, hm, Same.trans hx hO, fun k hk => Nat.le_trans hx.size (hf k hk)⟩))
  have H4 : Hid (∀ (o : O) wx, Same W wx → o.ok wx → o.rep d → Calls Try.prog 54 #[o.ptr] wx (fun e w' => ∃ a m cap, e = .returned (.agg #[.int .u64 (d.length : Int), .slice a m cap]) ∧ Told w W (w.heap.size + 1 + 1) d a m cap w' ∧ Same W w' ∧ w'.cell? ⟨w.heap.size + 1 + 1, 0, none⟩ = some (.int .u64 0) ∧ w'.cell? ⟨w.heap.size + 1 + 1, 1, none⟩ = some (.slice none 0 0) ∧ w'.frozen? ⟨w.heap.size + 1 + 1, 0, none⟩ = false ∧ w'.frozen? ⟨w.heap.size + 1 + 1, 1, none⟩ = false)) := Lib.hid (fun o wx hx k1 r1 =>
    (said64 o d wx k1 r1 (by omega)).mono (fun e w' ⟨a, m, cap, he, hu, hO, hf⟩ => by
      have hb := still (Same.trans hx hO) HRES.out
      exact ⟨a, m, cap, he, told_mk HS0.out (by omega) HRES.out hx (fun _ f => f.elim) (Only.refl (fun _ => False) _) hO hu hf, Same.trans hx hO, block_cell hb rfl, block_cell hb rfl, block_free hb, block_free hb⟩))
  have hWs : w.heap.size + 1 + 1 < W.heap.size := lt_of_heap HRES.out
  go_region_held3 (fun w' => w'.cell? ⟨w.heap.size, 0, none⟩ = some (.int .u64 (b.length : Int)) ∧ w'.cell? ⟨w.heap.size, 1, none⟩ = some (.slice a m cap) ∧ w'.cell? ⟨w.heap.size + 1, 0, none⟩ = some (.int .u64 (b'.length : Int)) ∧ w'.cell? ⟨w.heap.size + 1, 1, none⟩ = some (.slice a' m' cap'))
    (first | exact HK.out _ (Only.drew (Only.refl _ _)) | exact HK.out _ (by assumption) | exact HK.out _ (Same.trans hO1 hO2) | exact HK2.out _ (by assumption) _ _)
    (first | ((go_at_call 45; (with_reducible refine (H1.out _ (by exact (Only.refl _ W).drew)).mono ?_); rintro e w1 ⟨o1, rfl, hok1, hrep1, hm1, hO1, hf1⟩)) | ((go_at_call 45; (with_reducible refine (H2.out w1 _ hO1 (Only.refl _ _)).mono ?_); rintro e w2 ⟨o2, rfl, hok2, hrep2, hm2, hO2, hf2⟩)) | ((go_at_call 61; (with_reducible refine (H3.out o1 o2 _ (Same.trans hO1 hO2) (hok1.keep hO2 (fun _ _ => id)) hok2 hrep1 hrep2 hm1 hm2).mono ?_); rintro e w3 ⟨o3, rfl, hok3, hrep3, hm3, hO3, hf3⟩)) | ((go_at_call 54; (with_reducible refine (H4.out o3 _ hO3 hok3 hrep3).mono ?_); rintro e w4 ⟨a4, m4, cap4, rfl, hT4, hO4, c40, c41, g40, g41⟩)))
  all_goals
    have HT := Lib.hid hT4
    clear hT4
    go_wp2_with fail
    refine bodyPost_ret (v := .agg #[.int .u64 (d.length : Int), .slice a4 m4 cap4]) ?_ rfl (HD.out ▸ HT.out.ret)
    simp [results, Try.results36, go_sem, c40, c41]
set_option maxRecDepth 100000 in
set_option maxHeartbeats 1600000 in
theorem implIntersection (v v' : Value) (b b' : List Bool) (w : World) (h : BV w v b) (h' : BV w v' b') (hn : b.length ≤ 1048000) (hn' : b'.length ≤ 1048000) :
    Calls Try.prog 37 #[v, v'] w (RetBits (twoL (fun x y => x && y) b b' (min b.length b'.length)) w) := by
  obtain ⟨a, m, cap, a', m', cap', rfl, rfl, hall⟩ := twoBoxes h h' hn hn'
  have HALL := Lib.hid hall
  clear hall h h'
  obtain ⟨d, hd⟩ : ∃ d, twoL (fun x y => x && y) b b' (min b.length b'.length) = d := ⟨_, rfl⟩
  have hdl : d.length ≤ 1048000 := by rw [← hd, twoL_len]; omega
  have HD := Lib.hid hd
  go_enter Try.func37, Try.ntmps37
  go_wp2_with fail
  obtain ⟨V, hV⟩ : ∃ V, V = (w.alloc (.cells #[.int .u64 (b.length : Int), .slice a m cap] 25)).alloc (.cells #[.int .u64 (b'.length : Int), .slice a' m' cap'] 25) := ⟨_, rfl⟩
  obtain ⟨hS, hK, h1, h2⟩ := HALL.out V hV
  rw [← hV]
  have hVs : V.heap.size = w.heap.size + 1 + 1 := by rw [hV]; simp
  obtain ⟨W, hW, hSW, hBW, hkW⟩ := newBlock V #[.int .u64 0, .slice none 0 0] 25
  have hres : W.heap[w.heap.size + 1 + 1]? = some (.cells #[.int .u64 0, .slice none 0 0] 25 (0, 0)) := by rw [← hVs]; exact hBW
  try rw [hVs]
  rw [← hW]
  have HS0 : Hid (Same w W) := Lib.hid (Same.trans hS hSW)
  have HRES := Lib.hid hres
  have HK : Hid (∀ wx, Same W wx → wx.cell? ⟨w.heap.size, 0, none⟩ = some (.int .u64 (b.length : Int)) ∧ wx.cell? ⟨w.heap.size, 1, none⟩ = some (.slice a m cap) ∧ wx.cell? ⟨w.heap.size + 1, 0, none⟩ = some (.int .u64 (b'.length : Int)) ∧ wx.cell? ⟨w.heap.size + 1, 1, none⟩ = some (.slice a' m' cap')) := Lib.hid (fun wx hx => hK wx (Same.trans hSW hx))
  have HK2 : Hid (∀ wx, Same W wx → ∀ x y, (((wx.setCell ⟨w.heap.size + 1 + 1, 0, none⟩ x).setCell ⟨w.heap.size + 1 + 1, 1, none⟩ y)).cell? ⟨w.heap.size, 0, none⟩ = some (.int .u64 (b.length : Int)) ∧ (((wx.setCell ⟨w.heap.size + 1 + 1, 0, none⟩ x).setCell ⟨w.heap.size + 1 + 1, 1, none⟩ y)).cell? ⟨w.heap.size, 1, none⟩ = some (.slice a m cap) ∧ (((wx.setCell ⟨w.heap.size + 1 + 1, 0, none⟩ x).setCell ⟨w.heap.size + 1 + 1, 1, none⟩ y)).cell? ⟨w.heap.size + 1, 0, none⟩ = some (.int .u64 (b'.length : Int)) ∧ (((wx.setCell ⟨w.heap.size + 1 + 1, 0, none⟩ x).setCell ⟨w.heap.size + 1 + 1, 1, none⟩ y)).cell? ⟨w.heap.size + 1, 1, none⟩ = some (.slice a' m' cap')) := Lib.hid (fun wx hx x y => by
    obtain ⟨k0, k1, k2, k3⟩ := HK.out wx hx
    refine ⟨?_, ?_, ?_, ?_⟩
    all_goals rw [World.cell?_setCell_other (h := fun e => by injection e with e; omega), World.cell?_setCell_other (h := fun e => by injection e with e; omega)]
    · exact k0
    · exact k1
    · exact k2
    · exact k3)
  have H1 : Hid (∀ wx, Same W wx → Calls Try.prog 45 #[.agg #[.int .u64 (b.length : Int), .slice a m cap]] wx (FObj W b)) := Lib.hid (fun wx hx => (h1 W wx hSW hx))
  have H2 : Hid (∀ w0 wx, Same W w0 → Same w0 wx → Calls Try.prog 45 #[.agg #[.int .u64 (b'.length : Int), .slice a' m' cap']] wx (FObj w0 b')) := Lib.hid (fun w0 wx h0 hx => (h2 w0 wx (Same.trans hSW h0) hx))
  obtain ⟨d0, d1, e0, e1⟩ := HK.out W (Only.refl _ _)
  clear hW hS hK h1 h2 HALL hd hSW hBW hkW hres hVs hV
  have H3 : Hid (∀ (o1 o2 : O) wx, Same W wx → o1.ok wx → o2.ok wx → o1.rep b → o2.rep b' → o1.m = (b.length + 63) / 64 → o2.m = (b'.length + 63) / 64 → Calls Try.prog 62 #[o1.ptr, o2.ptr] wx (FObj W d)) := Lib.hid (fun o1 o2 wx hx k1 k2 r1 r2 t1 t2 => by
    rw [← HD.out]
    exact (inter o1 o2 b b' wx k1 k2 r1 r2 t1 t2 hn hn').mono (fun e w' ⟨o, he, hok, hr, hm, hO, hf⟩ => ⟨o, he, hok, hr, hm, Same.trans hx hO, fun k hk => Nat.le_trans hx.size (hf k hk)⟩))
  have H4 : Hid (∀ (o : O) wx, Same W wx → o.ok wx → o.rep d → Calls Try.prog 54 #[o.ptr] wx (fun e w' => ∃ a m cap, e = .returned (.agg #[.int .u64 (d.length : Int), .slice a m cap]) ∧ Told w W (w.heap.size + 1 + 1) d a m cap w' ∧ Same W w' ∧ w'.cell? ⟨w.heap.size + 1 + 1, 0, none⟩ = some (.int .u64 0) ∧ w'.cell? ⟨w.heap.size + 1 + 1, 1, none⟩ = some (.slice none 0 0) ∧ w'.frozen? ⟨w.heap.size + 1 + 1, 0, none⟩ = false ∧ w'.frozen? ⟨w.heap.size + 1 + 1, 1, none⟩ = false)) := Lib.hid (fun o wx hx k1 r1 =>
    (said64 o d wx k1 r1 (by omega)).mono (fun e w' ⟨a, m, cap, he, hu, hO, hf⟩ => by
      have hb := still (Same.trans hx hO) HRES.out
      exact ⟨a, m, cap, he, told_mk HS0.out (by omega) HRES.out hx (fun _ f => f.elim) (Only.refl (fun _ => False) _) hO hu hf, Same.trans hx hO, block_cell hb rfl, block_cell hb rfl, block_free hb, block_free hb⟩))
  have hWs : w.heap.size + 1 + 1 < W.heap.size := lt_of_heap HRES.out
  go_region_held3 (fun w' => w'.cell? ⟨w.heap.size, 0, none⟩ = some (.int .u64 (b.length : Int)) ∧ w'.cell? ⟨w.heap.size, 1, none⟩ = some (.slice a m cap) ∧ w'.cell? ⟨w.heap.size + 1, 0, none⟩ = some (.int .u64 (b'.length : Int)) ∧ w'.cell? ⟨w.heap.size + 1, 1, none⟩ = some (.slice a' m' cap'))
    (first | exact HK.out _ (Only.drew (Only.refl _ _)) | exact HK.out _ (by assumption) | exact HK.out _ (Same.trans hO1 hO2) | exact HK2.out _ (by assumption) _ _)
    (first | ((go_at_call 45; (with_reducible refine (H1.out _ (by exact (Only.refl _ W).drew)).mono ?_); rintro e w1 ⟨o1, rfl, hok1, hrep1, hm1, hO1, hf1⟩)) | ((go_at_call 45; (with_reducible refine (H2.out w1 _ hO1 (Only.refl _ _)).mono ?_); rintro e w2 ⟨o2, rfl, hok2, hrep2, hm2, hO2, hf2⟩)) | ((go_at_call 62; (with_reducible refine (H3.out o1 o2 _ (Same.trans hO1 hO2) (hok1.keep hO2 (fun _ _ => id)) hok2 hrep1 hrep2 hm1 hm2).mono ?_); rintro e w3 ⟨o3, rfl, hok3, hrep3, hm3, hO3, hf3⟩)) | ((go_at_call 54; (with_reducible refine (H4.out o3 _ hO3 hok3 hrep3).mono ?_); rintro e w4 ⟨a4, m4, cap4, rfl, hT4, hO4, c40, c41, g40, g41⟩)))
  all_goals
    have HT := Lib.hid hT4
    clear hT4
    go_wp2_with fail
    refine bodyPost_ret (v := .agg #[.int .u64 (d.length : Int), .slice a4 m4 cap4]) ?_ rfl (HD.out ▸ HT.out.ret)
    simp [results, Try.results37, go_sem, c40, c41]
set_option maxRecDepth 100000 in
set_option maxHeartbeats 1600000 in
theorem implDifference (v v' : Value) (b b' : List Bool) (w : World) (h : BV w v b) (h' : BV w v' b') (hn : b.length ≤ 1048000) (hn' : b'.length ≤ 1048000) :
    Calls Try.prog 38 #[v, v'] w (RetBits (twoL (fun x y => x && !y) b b' b.length) w) := by
  obtain ⟨a, m, cap, a', m', cap', rfl, rfl, hall⟩ := twoBoxes h h' hn hn'
  have HALL := Lib.hid hall
  clear hall h h'
  obtain ⟨d, hd⟩ : ∃ d, twoL (fun x y => x && !y) b b' b.length = d := ⟨_, rfl⟩
  have hdl : d.length ≤ 1048000 := by rw [← hd, twoL_len]; omega
  have HD := Lib.hid hd
  go_enter Try.func38, Try.ntmps38
  go_wp2_with fail
  obtain ⟨V, hV⟩ : ∃ V, V = (w.alloc (.cells #[.int .u64 (b.length : Int), .slice a m cap] 25)).alloc (.cells #[.int .u64 (b'.length : Int), .slice a' m' cap'] 25) := ⟨_, rfl⟩
  obtain ⟨hS, hK, h1, h2⟩ := HALL.out V hV
  rw [← hV]
  have hVs : V.heap.size = w.heap.size + 1 + 1 := by rw [hV]; simp
  obtain ⟨W, hW, hSW, hBW, hkW⟩ := newBlock V #[.int .u64 0, .slice none 0 0] 25
  have hres : W.heap[w.heap.size + 1 + 1]? = some (.cells #[.int .u64 0, .slice none 0 0] 25 (0, 0)) := by rw [← hVs]; exact hBW
  try rw [hVs]
  rw [← hW]
  have HS0 : Hid (Same w W) := Lib.hid (Same.trans hS hSW)
  have HRES := Lib.hid hres
  have HK : Hid (∀ wx, Same W wx → wx.cell? ⟨w.heap.size, 0, none⟩ = some (.int .u64 (b.length : Int)) ∧ wx.cell? ⟨w.heap.size, 1, none⟩ = some (.slice a m cap) ∧ wx.cell? ⟨w.heap.size + 1, 0, none⟩ = some (.int .u64 (b'.length : Int)) ∧ wx.cell? ⟨w.heap.size + 1, 1, none⟩ = some (.slice a' m' cap')) := Lib.hid (fun wx hx => hK wx (Same.trans hSW hx))
  have HK2 : Hid (∀ wx, Same W wx → ∀ x y, (((wx.setCell ⟨w.heap.size + 1 + 1, 0, none⟩ x).setCell ⟨w.heap.size + 1 + 1, 1, none⟩ y)).cell? ⟨w.heap.size, 0, none⟩ = some (.int .u64 (b.length : Int)) ∧ (((wx.setCell ⟨w.heap.size + 1 + 1, 0, none⟩ x).setCell ⟨w.heap.size + 1 + 1, 1, none⟩ y)).cell? ⟨w.heap.size, 1, none⟩ = some (.slice a m cap) ∧ (((wx.setCell ⟨w.heap.size + 1 + 1, 0, none⟩ x).setCell ⟨w.heap.size + 1 + 1, 1, none⟩ y)).cell? ⟨w.heap.size + 1, 0, none⟩ = some (.int .u64 (b'.length : Int)) ∧ (((wx.setCell ⟨w.heap.size + 1 + 1, 0, none⟩ x).setCell ⟨w.heap.size + 1 + 1, 1, none⟩ y)).cell? ⟨w.heap.size + 1, 1, none⟩ = some (.slice a' m' cap')) := Lib.hid (fun wx hx x y => by
    obtain ⟨k0, k1, k2, k3⟩ := HK.out wx hx
    refine ⟨?_, ?_, ?_, ?_⟩
    all_goals rw [World.cell?_setCell_other (h := fun e => by injection e with e; omega), World.cell?_setCell_other (h := fun e => by injection e with e; omega)]
    · exact k0
    · exact k1
    · exact k2
    · exact k3)
  have H1 : Hid (∀ wx, Same W wx → Calls Try.prog 45 #[.agg #[.int .u64 (b.length : Int), .slice a m cap]] wx (FObj W b)) := Lib.hid (fun wx hx => (h1 W wx hSW hx))
  have H2 : Hid (∀ w0 wx, Same W w0 → Same w0 wx → Calls Try.prog 45 #[.agg #[.int .u64 (b'.length : Int), .slice a' m' cap']] wx (FObj w0 b')) := Lib.hid (fun w0 wx h0 hx => (h2 w0 wx (Same.trans hSW h0) hx))
  obtain ⟨d0, d1, e0, e1⟩ := HK.out W (Only.refl _ _)
  clear hW hS hK h1 h2 HALL hd hSW hBW hkW hres hVs hV
  have H3 : Hid (∀ (o1 o2 : O) wx, Same W wx → o1.ok wx → o2.ok wx → o1.rep b → o2.rep b' → o1.m = (b.length + 63) / 64 → o2.m = (b'.length + 63) / 64 → Calls Try.prog 63 #[o1.ptr, o2.ptr] wx (FObj W d)) := Lib.hid (fun o1 o2 wx hx k1 k2 r1 r2 t1 t2 => by
    rw [← HD.out]
    exact (difference o1 o2 b b' wx k1 k2 r1 r2 t1 hn hn').mono (fun e w' ⟨o, he, hok, hr, hm, hO, hf⟩ => ⟨o, he, hok, hr, hm, Same.trans hx hO, fun k hk => Nat.le_trans hx.size (hf k hk)⟩))
  have H4 : Hid (∀ (o : O) wx, Same W wx → o.ok wx → o.rep d → Calls Try.prog 54 #[o.ptr] wx (fun e w' => ∃ a m cap, e = .returned (.agg #[.int .u64 (d.length : Int), .slice a m cap]) ∧ Told w W (w.heap.size + 1 + 1) d a m cap w' ∧ Same W w' ∧ w'.cell? ⟨w.heap.size + 1 + 1, 0, none⟩ = some (.int .u64 0) ∧ w'.cell? ⟨w.heap.size + 1 + 1, 1, none⟩ = some (.slice none 0 0) ∧ w'.frozen? ⟨w.heap.size + 1 + 1, 0, none⟩ = false ∧ w'.frozen? ⟨w.heap.size + 1 + 1, 1, none⟩ = false)) := Lib.hid (fun o wx hx k1 r1 =>
    (said64 o d wx k1 r1 (by omega)).mono (fun e w' ⟨a, m, cap, he, hu, hO, hf⟩ => by
      have hb := still (Same.trans hx hO) HRES.out
      exact ⟨a, m, cap, he, told_mk HS0.out (by omega) HRES.out hx (fun _ f => f.elim) (Only.refl (fun _ => False) _) hO hu hf, Same.trans hx hO, block_cell hb rfl, block_cell hb rfl, block_free hb, block_free hb⟩))
  have hWs : w.heap.size + 1 + 1 < W.heap.size := lt_of_heap HRES.out
  go_region_held3 (fun w' => w'.cell? ⟨w.heap.size, 0, none⟩ = some (.int .u64 (b.length : Int)) ∧ w'.cell? ⟨w.heap.size, 1, none⟩ = some (.slice a m cap) ∧ w'.cell? ⟨w.heap.size + 1, 0, none⟩ = some (.int .u64 (b'.length : Int)) ∧ w'.cell? ⟨w.heap.size + 1, 1, none⟩ = some (.slice a' m' cap'))
    (first | exact HK.out _ (Only.drew (Only.refl _ _)) | exact HK.out _ (by assumption) | exact HK.out _ (Same.trans hO1 hO2) | exact HK2.out _ (by assumption) _ _)
    (first | ((go_at_call 45; (with_reducible refine (H1.out _ (by exact (Only.refl _ W).drew)).mono ?_); rintro e w1 ⟨o1, rfl, hok1, hrep1, hm1, hO1, hf1⟩)) | ((go_at_call 45; (with_reducible refine (H2.out w1 _ hO1 (Only.refl _ _)).mono ?_); rintro e w2 ⟨o2, rfl, hok2, hrep2, hm2, hO2, hf2⟩)) | ((go_at_call 63; (with_reducible refine (H3.out o1 o2 _ (Same.trans hO1 hO2) (hok1.keep hO2 (fun _ _ => id)) hok2 hrep1 hrep2 hm1 hm2).mono ?_); rintro e w3 ⟨o3, rfl, hok3, hrep3, hm3, hO3, hf3⟩)) | ((go_at_call 54; (with_reducible refine (H4.out o3 _ hO3 hok3 hrep3).mono ?_); rintro e w4 ⟨a4, m4, cap4, rfl, hT4, hO4, c40, c41, g40, g41⟩)))
  all_goals
    have HT := Lib.hid hT4
    clear hT4
    go_wp2_with fail
    refine bodyPost_ret (v := .agg #[.int .u64 (d.length : Int), .slice a4 m4 cap4]) ?_ rfl (HD.out ▸ HT.out.ret)
    simp [results, Try.results38, go_sem, c40, c41]
end Go.Proofs.Ythnfoiaemeklnaa.bs

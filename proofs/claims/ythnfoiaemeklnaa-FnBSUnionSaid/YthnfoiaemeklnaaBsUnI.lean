/-
  The thin package: BSUnion: in place, and how many. Printed by a program of mine.
-/
import Derived.Test.YthnfoiaemeklnaaBsSetI
import Derived.Test.YthnfoiaemeklnaaBsUnC
import Derived.Test.YthnfoiaemeklnaaBsUn
namespace Go.Proofs.Ythnfoiaemeklnaa.bs
open Go.RowKit Go.Proofs.Ythnfoiaemeklnaa.base Go.Proofs.Ythnfoiaemeklnaa.heap Go.Proofs.Ythnfoiaemeklnaa.bit
set_option linter.unusedVariables false

set_option maxRecDepth 100000 in
set_option maxHeartbeats 1600000 in
theorem implInPlaceUnion (v v' : Value) (b b' : List Bool) (w : World) (h : BV w v b) (h' : BV w v' b') (hn : b.length ≤ 1048000) (hn' : b'.length ≤ 1048000) :
    Calls Try.prog 43 #[v, v'] w (RetBits (twoL (fun x y => x || y) b b' (max b.length b'.length)) w) := by
  obtain ⟨a, m, cap, a', m', cap', rfl, rfl, hall⟩ := twoBoxes h h' hn hn'
  have HALL := Lib.hid hall
  clear hall h h'
  obtain ⟨d, hd⟩ : ∃ d, twoL (fun x y => x || y) b b' (max b.length b'.length) = d := ⟨_, rfl⟩
  have hdl : d.length ≤ 1048000 := by rw [← hd, twoL_len]; omega
  have HD := Lib.hid hd
  go_enter Try.func43, Try.ntmps43
  go_wp2_with fail
  obtain ⟨V, hV⟩ : ∃ V, V = (w.alloc (.cells #[.int .u64 (b.length : Int), .slice a m cap] 25)).alloc (.cells #[.int .u64 (b'.length : Int), .slice a' m' cap'] 25) := ⟨_, rfl⟩
  obtain ⟨hS, hK, h1, h2⟩ := HALL.out V hV
  rw [← hV]
  have hVs : V.heap.size = w.heap.size + 1 + 1 := by rw [hV]; simp
  obtain ⟨W, hW, hSW, hBW, hkW⟩ := newBlock V #[.int .u64 0, .slice none 0 0] 25
  have hres : W.heap[w.heap.size + 1 + 1]? = some (.cells #[.int .u64 0, .slice none 0 0] 25 (0, 0)) := by rw [← hVs]; exact hBW
  try rw [hVs]
  rw [← hW]
  have HS0 : Hid (Same w W) := Lib.hid (Same.trans hS hSW)
  have HRES := Lib.hid hres
  have HK : Hid (∀ wx, Same W wx → wx.cell? ⟨w.heap.size, 0, none⟩ = some (.int .u64 (b.length : Int)) ∧ wx.cell? ⟨w.heap.size, 1, none⟩ = some (.slice a m cap) ∧ wx.cell? ⟨w.heap.size + 1, 0, none⟩ = some (.int .u64 (b'.length : Int)) ∧ wx.cell? ⟨w.heap.size + 1, 1, none⟩ = some (.slice a' m' cap')) := Lib.hid (fun wx hx => hK wx (Same.trans hSW hx))
  have H1 : Hid (∀ wx, Same W wx → Calls Try.prog 45 #[.agg #[.int .u64 (b.length : Int), .slice a m cap]] wx (FObj W b)) := Lib.hid (fun wx hx => (h1 W wx hSW hx))
  have H2 : Hid (∀ w0 wx, Same W w0 → Same w0 wx → Calls Try.prog 45 #[.agg #[.int .u64 (b'.length : Int), .slice a' m' cap']] wx (FObj w0 b')) := Lib.hid (fun w0 wx h0 hx => (h2 w0 wx (Same.trans hSW h0) hx))
  obtain ⟨d0, d1, e0, e1⟩ := HK.out W (Only.refl _ _)
  clear hW hS hK h1 h2 HALL hd hSW hBW hkW hres hVs hV
  have hWs : w.heap.size + 1 + 1 < W.heap.size := lt_of_heap HRES.out
  refine (H1.out W (Only.refl _ _)).mono ?_
  rintro e w1 ⟨o1, rfl, hok1, hrep1, hm1, hO1, hf1⟩
  clear d0 d1 e0 e1
  obtain ⟨d0, d1, e0, e1⟩ := HK.out w1 hO1
  have HO1 := Lib.hid hO1
  have HOK1 := Lib.hid hok1
  have HR1 := Lib.hid hrep1
  have HF1 := Lib.hid hf1
  have HM1 := Lib.hid hm1
  clear hO1 hok1 hrep1 hf1 hm1
  try unfold O.ptr
  go_wp2_with fail
  refine (H2.out w1 w1 HO1.out (Only.refl _ _)).mono ?_
  rintro e w2 ⟨o2, rfl, hok2, hrep2, hm2, hO2, hf2⟩
  have HO2 := Lib.hid hO2
  have H3 : Hid (Calls Try.prog 67 #[.pointer (some ⟨o1.p, 0, none⟩), o2.ptr] w2 fun e w' => e = .returned (.tuple #[]) ∧ Upd o1 d w2 w') := Lib.hid (by
    rw [← HD.out]
    exact inPlaceUnion o1 o2 b b' w2 (HOK1.out.keep HO2.out (fun _ _ => id)) hok2 HR1.out hrep2 (fun j hj hh => by have := HOK1.out.lt j hj; have := hf2 j hh; omega) hm2 hn hn')
  clear hO2 hok2 hrep2 hf2 hm2 d0 d1 e0 e1
  try unfold O.ptr at *
  go_wp2_with fail
  refine H3.out.mono ?_
  rintro e w3 ⟨rfl, o', hp', hok', hrep', hO3, hf3⟩
  have HS2 := Lib.hid (said64_at o1 o' _ w3 hp' hok' hrep' (by omega))
  have HO3 := Lib.hid hO3
  clear hp' hok' hrep' hO3 hf3 H3
  unfold O.ptr at HS2
  go_wp2_with fail
  refine HS2.out.mono ?_
  rintro e w4 ⟨a4, m4, cap4, rfl, hu4, hO4, hf4⟩
  have HT := Lib.hid (told_mk HS0.out (by omega) HRES.out (Same.trans HO1.out HO2.out) HF1.out HO3.out hO4 hu4 hf4)
  have r0 : w4.cell? ⟨w.heap.size + 1 + 1, 0, none⟩ = some (.int .u64 0) := block_cell HT.out.res rfl
  have r1 : w4.cell? ⟨w.heap.size + 1 + 1, 1, none⟩ = some (.slice none 0 0) := block_cell HT.out.res rfl
  have rf0 : w4.frozen? ⟨w.heap.size + 1 + 1, 0, none⟩ = false := block_free HT.out.res
  have rf1 : w4.frozen? ⟨w.heap.size + 1 + 1, 1, none⟩ = false := block_free HT.out.res
  clear hu4 hO4 hf4
  go_wp2_with fail
  refine bodyPost_ret (v := .agg #[.int .u64 (d.length : Int), .slice a4 m4 cap4]) ?_ rfl (HD.out ▸ HT.out.ret)
  simp [results, Try.results43, go_sem, r0, r1]

set_option maxRecDepth 100000 in
set_option maxHeartbeats 1600000 in
theorem implUnionCardinality (v v' : Value) (b b' : List Bool) (w : World) (h : BV w v b) (h' : BV w v' b') (hn : b.length ≤ 1048000) (hn' : b'.length ≤ 1048000) :
    Calls Try.prog 44 #[v, v'] w (RetV (.int .u64 ((ones (twoL (fun x y => x || y) b b' (max b.length b'.length))).length : Int)) w) := by
  obtain ⟨a, m, cap, a', m', cap', rfl, rfl, hall⟩ := twoBoxes h h' hn hn'
  have HALL := Lib.hid hall
  clear hall h h'
  obtain ⟨d, hd⟩ : ∃ d, (ones (twoL (fun x y => x || y) b b' (max b.length b'.length))).length = d := ⟨_, rfl⟩
  have HD := Lib.hid hd
  rw [hd]
  clear hd
  go_enter Try.func44, Try.ntmps44
  go_wp2_with fail
  obtain ⟨W, hW⟩ : ∃ W, W = (w.alloc (.cells #[.int .u64 (b.length : Int), .slice a m cap] 25)).alloc (.cells #[.int .u64 (b'.length : Int), .slice a' m' cap'] 25) := ⟨_, rfl⟩
  obtain ⟨hS, hK, h1, h2⟩ := HALL.out W hW
  rw [← hW]
  obtain ⟨d0, d1, e0, e1⟩ := hK W (Only.refl _ _)
  have HK := Lib.hid hK
  have H1 := Lib.hid h1
  have H2 := Lib.hid h2
  have HS := Lib.hid hS
  clear hW hS hK h1 h2 HALL
  have H3 : Hid (∀ (o1 o2 : O) wx, o1.ok wx → o2.ok wx → o1.rep b → o2.rep b' → o1.m = (b.length + 63) / 64 → o2.m = (b'.length + 63) / 64 → Calls Try.prog 68 #[o1.ptr, o2.ptr] wx (FV wx (.int .u64 (d : Int)))) := Lib.hid (fun o1 o2 wx k1 k2 r1 r2 t1 t2 => by
    rw [← HD.out]
    exact unionCard o1 o2 b b' wx k1 k2 r1 r2 t1 t2 hn hn')
  go_region_held3 (fun w' => w'.cell? ⟨w.heap.size, 0, none⟩ = some (.int .u64 (b.length : Int)) ∧ w'.cell? ⟨w.heap.size, 1, none⟩ = some (.slice a m cap) ∧ w'.cell? ⟨w.heap.size + 1, 0, none⟩ = some (.int .u64 (b'.length : Int)) ∧ w'.cell? ⟨w.heap.size + 1, 1, none⟩ = some (.slice a' m' cap'))
    (first | go_keep | (go_split_ands; exact HK.out _ (hO1.trans (hO2.trans hO3))) | (go_split_ands; exact HK.out _ (hO1.trans hO2)) | (go_split_ands; exact HK.out _ hO1))
    (first | ((go_at_call 45; (with_reducible refine (H1.out W _ (Only.refl _ _) (by exact (Only.refl _ W).drew)).mono ?_); rintro e w1 ⟨o1, rfl, hok1, hrep1, hm1, hO1, hf1⟩)) | ((go_at_call 45; (with_reducible refine (H2.out w1 _ hO1 (Only.refl _ _)).mono ?_); rintro e w2 ⟨o2, rfl, hok2, hrep2, hm2, hO2, hf2⟩)) | ((go_at_call 68; (with_reducible refine (H3.out o1 o2 w2 (hok1.keep hO2 (fun _ _ => id)) hok2 hrep1 hrep2 hm1 hm2).mono ?_); rintro e w3 ⟨rfl, hO3⟩)))
  go_wp2
  go_ret
  exact ⟨rfl, Same.trans HS.out (Same.trans hO1 (Same.trans hO2 hO3))⟩
end Go.Proofs.Ythnfoiaemeklnaa.bs

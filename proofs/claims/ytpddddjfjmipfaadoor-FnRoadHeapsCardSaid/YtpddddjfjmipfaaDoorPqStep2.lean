/-
  pqStep: Get.
-/
import Derived.Test.YtpddddjfjmipfaaDoorPqStep1
import Derived.Deep.RegionLaw
namespace Go.Proofs.YtpddddjfjmipfaaDoor.pq
open Go.RowKit Go.Proofs.YtpddddjfjmipfaaDoor.base Go.Proofs.YtpddddjfjmipfaaDoor.heap Go.Proofs.YtpddddjfjmipfaaDoor.rows
set_option linter.unusedVariables false
section
variable {w : World} {ob mb : Nat} {a : Option Addr} {cap : Nat} {L : List It}
theorem slIt : SliceOf Tryd.prog 23 28 2 16 := SliceOf.mk (z := .agg #[.int .i64 0, .int .i64 0]) Tryd.underlying23 (by kernel_rfl) rfl

set_option maxRecDepth 100000 in
set_option maxHeartbeats 1600000 in
theorem step2e (h : Q w ob mb a cap L) (hh : Heap L) (s : Stp) (hs : s.op = 2) (hn : 1 ≤ s.n) (h0 : L.length = 0) :
    Calls Tryd.prog 8 #[.pointer (some ⟨ob, 0, none⟩), .agg #[.int .i64 2, .int .i64 s.n, .slice s.a s.m s.cap]] w (StepPost w ob mb a L s) := by
  have HQ := Lib.hid h
  have HH := Lib.hid hh
  have HS := Lib.hid hs
  have H0 := Lib.hid h0
  have HE : Hid (∀ wx, Same w wx → Calls Tryd.prog 17 #[.pointer (some ⟨ob, 0, none⟩)] wx fun e w' => e = .returned (.bool true) ∧ wx = w') := Lib.hid (fun wx hs => by
    have := emptyQ (h.still hs)
    rwa [decide_eq_true h0] at this)
  clear h hh hs h0
  go_enter Tryd.func8, Tryd.ntmps8
  go_wp2_with fail
  refine (HE.out _ (((Only.refl _ _).alloc _).alloc _)).mono ?_
  rintro e w1 ⟨rfl, rfl⟩
  go_wp2_with fail
  refine (disposedQ (HQ.out.still (((Only.refl _ _).alloc _).alloc _))).mono ?_
  rintro e w1 ⟨rfl, rfl⟩
  go_wp2_with fail
  refine bodyPost_ret (v := .agg #[.slice none 0 0, .int .i64 0, .bool false, .int .i64 (-1)]) ?_ rfl ?_
  · simp [results, Tryd.results8, go_sem]
  exact ⟨⟨none, 0, [], 0, false, -1⟩, a, cap, L, rfl, Now.same HQ.out HH.out (((Only.refl _ _).alloc _).alloc _), .inr (.inl ⟨HS.out, H0.out, rfl, rfl, rfl⟩), RS.nil _ _ _, fun j hj => hj.elim⟩

set_option maxRecDepth 100000 in
set_option maxHeartbeats 3200000 in
theorem step2 (h : Q w ob mb a cap L) (hh : Heap L) (s : Stp) (hs : s.op = 2) (k : Nat) (hk : s.n = (k : Int)) (hk0 : 1 ≤ k) (hk1 : k ≤ 1000) (h0 : 0 < L.length) (hl : L.length < 100000) :
    Calls Tryd.prog 8 #[.pointer (some ⟨ob, 0, none⟩), .agg #[.int .i64 2, .int .i64 s.n, .slice s.a s.m s.cap]] w (StepPost w ob mb a L s) := by
  have HQ := Lib.hid h
  have HH := Lib.hid hh
  have HS := Lib.hid hs
  have H0 := Lib.hid h0
  have HK := Lib.hid hk
  have HL := Lib.hid hl
  have HE : Hid (∀ wx, Same w wx → Calls Tryd.prog 17 #[.pointer (some ⟨ob, 0, none⟩)] wx fun e w' => e = .returned (.bool false) ∧ wx = w') := Lib.hid (fun wx hs => by
    have := emptyQ (h.still hs)
    rwa [decide_eq_false (by omega)] at this)
  have hk2 : (1 : Int) ≤ (k : Int) := by omega
  rw [hk]
  clear h hh hs h0 hl hk
  go_enter Tryd.func8, Tryd.ntmps8
  go_wp2_with fail
  refine (HE.out _ (((Only.refl _ _).alloc _).alloc _)).mono ?_
  rintro e w1 ⟨rfl, rfl⟩
  go_wp2_with fail
  obtain ⟨w1, HW1⟩ : ∃ w1, Hid (((w.alloc (.cells #[.int .i64 2, .int .i64 (k : Int), .slice s.a s.m s.cap] 35)).alloc (.cells #[.slice none 0 0, .int .i64 0, .bool false, .int .i64 0] 41)) = w1) := ⟨_, Lib.hid rfl⟩
  have HS1 : Hid (Same w w1) := Lib.hid (by rw [← HW1.out]; exact ((Only.refl _ _).alloc _).alloc _)
  have HG1 : Hid (w1.heap[w.heap.size + 1]? = some (.cells #[.slice none 0 0, .int .i64 0, .bool false, .int .i64 0] 41 (0, 0))) := Lib.hid (by rw [← HW1.out]; exact heap_alloc_new' _ _ _ (by simp))
  rw [HW1.out]
  clear HW1
  refine (takeQ (HQ.out.still HS1.out) HH.out HL.out k hk0 hk1).mono ?_
  rintro e w2 ⟨ra, rc, R, rest, rfl, hlen, hT⟩
  have HT := Lib.hid hT
  have HLEN := Lib.hid hlen
  obtain ⟨n, HN⟩ : ∃ n, Hid (R.length = n) := ⟨_, Lib.hid rfl⟩
  rw [HN.out]
  clear hT hlen
  have HB2 : Hid (w2.heap[w.heap.size + 1]? = some (.cells #[.slice none 0 0, .int .i64 0, .bool false, .int .i64 0] 41 (0, 0))) := Lib.hid (HT.out.only.obj HG1.out (fun hf => by have := HQ.out.lt _ hf; omega))
  go_wp2_with fail
  refine (err0 _).mono ?_
  rintro e w3 ⟨rfl, rfl⟩
  have hn3 : n ≤ 1000 := by have := HLEN.out; have := HN.out; omega
  go_wp2_with fail
  obtain ⟨w3, HW3⟩ : ∃ w3, Hid ((w2.alloc (.cells #[.slice none 0 0, .int .i64 0, .bool false, .int .i64 0] 41)) = w3) := ⟨_, Lib.hid rfl⟩
  obtain ⟨g2, HG2⟩ : ∃ g2, Hid (w2.heap.size = g2) := ⟨_, Lib.hid rfl⟩
  have HS3 : Hid (Same w2 w3) := Lib.hid (by rw [← HW3.out]; exact (Only.refl _ _).alloc _)
  have HB3 : Hid (w3.heap[g2]? = some (.cells #[.slice none 0 0, .int .i64 0, .bool false, .int .i64 0] 41 (0, 0))) := Lib.hid (by rw [← HW3.out, ← HG2.out]; exact heap_alloc_new _ _)
  rw [HW3.out, HG2.out]
  clear HW3
  go_loopw [65] (fun i wr => ∃ (j : Nat) (ya : Option Addr) (yc : Nat), j ≤ n ∧ i = .int .i64 (j : Int) ∧ wr.heap[g2]? = some (.cells #[.slice ya j yc, .int .i64 0, .bool false, .int .i64 0] 41 (0, 0)) ∧ OS 28 itc 2 wr ya j yc (R.take j) ∧ Only (fun q => q = g2) w3 wr ∧ ∀ q, At ya q → w3.heap.size ≤ q) (fun i _ => n - (intOf i).toNat)
  case atStart => exact ⟨0, none, 0, Nat.zero_le _, rfl, HB3.out, OS.nil _ _ _ _, Only.refl _ _, fun q hq => hq.elim⟩
  case round =>
    obtain ⟨j, ya, yc, hj, rfl, hbg, hown, hO, hyf⟩ := hrel
    have hby := hown.bound
    have HBGr := Lib.hid hbg
    have HOWN := Lib.hid hown
    have HOr := Lib.hid hO
    have HYF := Lib.hid hyf
    have hg3 : g2 < w3.heap.size := lt_of_heap HB3.out
    clear hbg hown hO hyf
    by_cases hjx : j < n
    · have hjx' : (j : Int) < (n : Int) := by omega
      have HRW : Hid (OL 77 itv wr ra R.length rc R) := Lib.hid ((HT.out.row.still HS3.out).keep HOr.out (fun q hq e => by have := HT.out.row.1.lt q hq; have := HG2.out; omega))
      obtain ⟨fb, fo, hfa, hfb, hfc⟩ := HRW.out.rl.at (by rw [HN.out]; omega)
      obtain ⟨⟨kx, tx⟩, hx⟩ := HRW.out.rl.get (show j < R.length by rw [HN.out]; exact hjx)
      have e0 : wr.cell? ⟨fb, fo + j, none⟩ = some (iw kx tx) := hfc j _ hx
      have HX := Lib.hid hx
      have HFA := Lib.hid hfa
      clear hfc hx
      subst hfa
      have e1 : wr.cell? ⟨g2, 0, none⟩ = some (.slice ya j yc) := block_cell HBGr.out rfl
      have e2 : wr.frozen? ⟨g2, 0, none⟩ = false := block_free HBGr.out
      have hta := asserted kx tx
      have hf1 := run_f1 kx tx
      have HKE : Hid (∀ wx, Same wr wx → wx.cell? ⟨g2, 0, none⟩ = some (.slice ya j yc)) := Lib.hid (fun wx hx => block_cell (heap_still hx HBGr.out) rfl)
      have e1a : (wr.alloc (.cells #[.int .i64 kx, .int .i64 tx] 28)).cell? ⟨g2, 0, none⟩ = some (.slice ya j yc) := HKE.out _ ((Only.refl _ wr).alloc _)
      go_wp2_with fail
      go_region_law
        ((refine step_app (j + 1) ((R.take j).flatMap itc ++ itc ⟨kx, tx⟩) (by rfl) _ _ _ _ (by rfl) slIt (by rfl) (HOWN.out.1.keep (S := fun _ => False) (by with_reducible repeat (first | exact Only.refl _ _ | apply Only.alloc | apply Only.drew)) (fun _ _ => id)) (by rfl) (Src.row (size := 2) (cs := #[.int .i64 kx, .int .i64 tx]) (t := 28) (fr := (0, 0)) Tryd.underlying23 (show ((wr.alloc (.cells #[.int .i64 kx, .int .i64 tx] 28)).drew).heap[wr.heap.size]? = _ from heap_alloc_new' wr _ _ rfl) 1 1 rfl (by simp [Value.oneCell'])) rfl rfl (by unfold maxLen; omega) (by omega) ?_; intro ya2 yc2 w9 hG; have hO9 : Only (At ya) wr w9 := Only.trans (S := At ya) (by with_reducible repeat (first | exact Only.refl _ _ | apply Only.alloc | apply Only.drew)) hG.only (fun _ _ h => h); have B9 : w9.heap[g2]? = some (.cells #[.slice ya j yc, .int .i64 0, .bool false, .int .i64 0] 41 (0, 0)) := hO9.obj HBGr.out (fun h => by have := HYF.out g2 h; omega); have e3 : w9.cell? ⟨g2, 0, none⟩ = some (.slice ya j yc) := block_cell B9 rfl; have e4 : w9.frozen? ⟨g2, 0, none⟩ = false := block_free B9))
      all_goals
        have HG := Lib.hid hG
        have HO9 := Lib.hid hO9
        have HB9 := Lib.hid B9
        clear hG hO9 B9 e3 e4 e1 e2 e1a e0 hta hf1
        obtain ⟨w10, hw10⟩ : ∃ w10, w10 = w9.setCell ⟨g2, 0, none⟩ (.slice ya2 (j + 1) yc2) := ⟨_, rfl⟩
        rw [← hw10]
        have HO10 : Hid (Only (fun q => q = g2) w9 w10) := Lib.hid (by rw [hw10]; exact (Only.refl _ _).setCell _ _ (fun _ => rfl))
        have HB10 : Hid (w10.heap[g2]? = some (.cells #[.slice ya2 (j + 1) yc2, .int .i64 0, .bool false, .int .i64 0] 41 (0, 0))) := Lib.hid (by rw [hw10]; exact setCell_heap HB9.out 0 _)
        have HFR10 : Hid (∀ q, At ya2 q → w3.heap.size ≤ q) := Lib.hid (fun q hq => by
          rcases HG.out.fresh q hq with h | h
          · exact HYF.out q h
          · have h1 : wr.heap.size + 1 ≤ q := by simpa using h
            have := HOr.out.size; omega)
        have HOW : Hid (OS 28 itc 2 w10 ya2 (j + 1) yc2 (R.take (j + 1))) := Lib.hid ⟨by
          have := HG.out.own.keep HO10.out (fun q hq e => by have := HFR10.out q hq; omega)
          rw [take_snoc R j _ HX.out, flat_snoc]; exact this, by rw [List.length_take]; have := HN.out; omega⟩
        have HO7r : Hid (Only (fun q => q = g2) w3 w10) := Lib.hid (Only.trans (Only.trans HOr.out HO9.out (fun q hq h => by have := HYF.out q h; omega)) HO10.out (fun _ _ h => h))
        clear hw10
        go_wp2_with fail
        go_roundw
        case rel => exact ⟨j + 1, ya2, yc2, by omega, by go_num, HB10.out, HOW.out, HO7r.out, HFR10.out⟩
        case measure => simp [intOf]; omega
    · obtain rfl : j = n := by omega
      have hlt' : ¬ (j : Int) < (j : Int) := by omega
      have hRt : R.take j = R := List.take_of_length_le (by rw [HN.out]; exact Nat.le_refl _)
      rw [hRt] at HOWN
      have hgr : wr.heap[w.heap.size + 1]? = some (.cells #[.slice none 0 0, .int .i64 0, .bool false, .int .i64 0] 41 (0, 0)) := HOr.out.obj (HS3.out.obj HB2.out id) (fun e => by have := lt_of_heap HB2.out; have := HG2.out; omega)
      have hgn : w.heap.size + 1 ≠ g2 := fun e => by have := lt_of_heap HB2.out; have := HG2.out; omega
      have HGR := Lib.hid hgr
      have x0 : wr.cell? ⟨g2, 0, none⟩ = some (.slice ya j yc) := block_cell HBGr.out rfl
      have x1 : wr.cell? ⟨g2, 1, none⟩ = some (.int .i64 0) := block_cell HBGr.out rfl
      have x2 : wr.cell? ⟨g2, 2, none⟩ = some (.bool false) := block_cell HBGr.out rfl
      have x3 : wr.cell? ⟨g2, 3, none⟩ = some (.int .i64 0) := block_cell HBGr.out rfl
      have y0 : wr.cell? ⟨w.heap.size + 1, 0, none⟩ = some (.slice none 0 0) := block_cell hgr rfl
      have y1 : wr.cell? ⟨w.heap.size + 1, 1, none⟩ = some (.int .i64 0) := block_cell hgr rfl
      have y2 : wr.cell? ⟨w.heap.size + 1, 2, none⟩ = some (.bool false) := block_cell hgr rfl
      have y3 : wr.cell? ⟨w.heap.size + 1, 3, none⟩ = some (.int .i64 0) := block_cell hgr rfl
      have z0 : wr.frozen? ⟨w.heap.size + 1, 0, none⟩ = false := block_free hgr
      have z1 : wr.frozen? ⟨w.heap.size + 1, 1, none⟩ = false := block_free hgr
      have z2 : wr.frozen? ⟨w.heap.size + 1, 2, none⟩ = false := block_free hgr
      have z3 : wr.frozen? ⟨w.heap.size + 1, 3, none⟩ = false := block_free hgr
      clear hgr hRt
      go_wp2_with fail
      refine bodyPost_ret (v := .agg #[.slice ya j yc, .int .i64 0, .bool false, .int .i64 0]) ?_ rfl ?_
      · simp [results, Tryd.results8, go_sem, y0, y1, y2, y3]
      have hfp : ∀ k, Fp ob mb a k → k < w.heap.size := HQ.out.lt
      have hsz1 := HS1.out.size
      have hsz2 := HT.out.only.size
      have hsz3 := HS3.out.size
      have hg2 := HG2.out
      have hlt1 := lt_of_heap HG1.out
      have hnow1 : Now w w2 ob mb a a cap rest := ⟨HT.out.q, HT.out.got.heap, Only.trans (S := Fp ob mb a) (HS1.out.mono (fun _ _ h => h.elim)) HT.out.only (fun _ _ h => h), fun k hk => .inl hk⟩
      have hnow2 : Now w wr ob mb a a cap rest := ⟨(HT.out.q.still HS3.out).keep HOr.out (fun k hk e => by have := hfp k hk; omega), HT.out.got.heap, (hnow1.only.trans HS3.out (fun _ _ h => h.elim)).trans HOr.out (fun k hk e => by omega), fun k hk => .inl hk⟩
      refine ⟨⟨ya, yc, R, 0, false, 0⟩, a, cap, rest, by rw [← HN.out]; rfl, hnow2.post (set4 wr (w.heap.size + 1) _ _ _ _) (by omega) (fun hf => by have := hfp _ hf; omega), .inr (.inr (.inl ⟨HS.out, H0.out, HT.out.got, ?_, rfl⟩)), ?_, fun q hq => ?_⟩
      · rw [HK.out]; exact HLEN.out
      · show RS itc 2 _ ya R.length yc R
        rw [HN.out]
        exact (HOWN.out.keep (set4 wr (w.heap.size + 1) _ _ _ _) (fun q hq e => by have := HYF.out q hq; omega)).rs
      · have := HYF.out q hq
        exact ⟨by omega, (HOWN.out.keep (set4 wr (w.heap.size + 1) _ _ _ _) (fun q hq e => by have := HYF.out q hq; omega)).1.lt q hq, fun hf => by have := hfp q hf; omega⟩
end
end Go.Proofs.YtpddddjfjmipfaaDoor.pq

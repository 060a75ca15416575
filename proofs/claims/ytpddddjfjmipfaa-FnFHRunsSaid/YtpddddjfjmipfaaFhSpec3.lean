/-
  The heaps of spec: without.
-/
import Derived.Test.YtpddddjfjmipfaaFhSpec2
import Derived.Test.YtpddddjfjmipfaaCut
namespace Go.Proofs.Ytpddddjfjmipfaa.fh
open Go.RowKit Go.Proofs.Ytpddddjfjmipfaa.base Go.Proofs.Ytpddddjfjmipfaa.heap Go.Proofs.Ytpddddjfjmipfaa.rows Go.Proofs.Ytpddddjfjmipfaa.flt
set_option linter.unusedVariables false

def OutP (L : List En) (n many k : Nat) (w : World) (e : Ending) (w' : World) : Prop := ∃ a' c', e = .returned (hv a' (n - 1) c' many) ∧ RE w' a' (n - 1) c' (L.eraseIdx k) ∧ Same w w' ∧ ∀ j, At a' j → w.heap.size ≤ j
set_option maxRecDepth 100000 in
set_option maxHeartbeats 6400000 in
theorem withoutC (a : Option Addr) (n c many : Nat) (L : List En) (k : Nat) (w : World) (h : RE w a n c L) (hn : n ≤ 100000) (hk : k < n) : Calls Try.prog 35 #[hv a n c many, .int .i64 (k : Int)] w (OutP L n many k w) := by
  have HR := Lib.hid h
  have hbd := h.bound
  obtain ⟨b, off, rfl, hb, _⟩ := h.1.cells (by omega)
  clear h
  go_enter Try.func35, Try.ntmps35
  go_wp2_with fail
  obtain ⟨w1, hw1⟩ : ∃ w1, ((w.alloc (.cells #[.slice (some ⟨b, off, none⟩) n c, .int .i64 (many : Int)] 28)).alloc (.cells #[.slice none 0 0, .int .i64 0] 28)) = w1 := ⟨_, rfl⟩
  have HS1 : Hid (Same w w1) := Lib.hid (by rw [← hw1]; exact ((Only.refl _ _).alloc _).alloc _)
  have hg1 : w1.heap[w.heap.size]? = some (.cells #[.slice (some ⟨b, off, none⟩) n c, .int .i64 (many : Int)] 28 (0, 0)) := by
    rw [← hw1]
    show ((w.heap.push _).push _)[w.heap.size]? = _
    rw [Array.getElem?_push, if_neg (by simp), Array.getElem?_push, if_pos rfl]
  have hz1 : w1.heap[w.heap.size + 1]? = some (.cells #[.slice none 0 0, .int .i64 0] 28 (0, 0)) := by rw [← hw1]; exact heap_alloc_new' _ _ _ (by simp)
  rw [hw1]
  clear hw1
  obtain ⟨g, hg⟩ : ∃ g, w.heap.size = g := ⟨_, rfl⟩
  have HG := Lib.hid hg
  rw [hg] at hg1 hz1 ⊢
  clear hg
  have HK : Hid (∀ wx, Same w1 wx → wx.cell? ⟨g, 0, none⟩ = some (.slice (some ⟨b, off, none⟩) n c) ∧ wx.cell? ⟨g, 1, none⟩ = some (.int .i64 (many : Int)) ∧ (∀ i, wx.frozen? ⟨g, i, none⟩ = false) ∧ g < wx.heap.size) := Lib.hid (fun wx hx => by
    have h1 := hx.obj hg1 id
    exact ⟨block_cell h1 rfl, block_cell h1 rfl, fun i => block_free h1, lt_of_heap h1⟩)
  obtain ⟨XA, HXA⟩ : ∃ XA, Hid (L.flatMap enc = XA) := ⟨_, Lib.hid rfl⟩
  have HRA : Hid (Rd 2 w1 (some ⟨b, off, none⟩) n c XA) := Lib.hid (by rw [← HXA.out]; exact (HR.out.still HS1.out).1)
  obtain ⟨XT, HXT⟩ : ∃ XT, Hid (XA.take (k * 2) = XT) := ⟨_, Lib.hid rfl⟩
  obtain ⟨XD, HXD⟩ : ∃ XD, Hid (XA.drop ((k + 1) * 2) = XD) := ⟨_, Lib.hid rfl⟩
  obtain ⟨XB, HXB⟩ : ∃ XB, Hid (XT ++ XD = XB) := ⟨_, Lib.hid rfl⟩
  obtain ⟨m, HM⟩ : ∃ m, Hid (n - 1 = m) := ⟨_, Lib.hid rfl⟩
  have HRT : Hid (∀ wx, Same w1 wx → Rd 2 wx (some ⟨b, off, none⟩) k c XT) := Lib.hid (fun wx hx => by rw [← HXT.out]; exact (HRA.out.take (by omega) (by omega) (Nat.le_refl _)).keep hx (fun _ _ => id))
  obtain ⟨pa, HRD, hpa⟩ : ∃ pa : Addr, Hid (∀ wx, Same w1 wx → Rd 2 wx (some pa) (n - (k + 1)) (c - (k + 1)) XD) ∧ ((c = k + 1 ∧ pa = ⟨b, off, none⟩) ∨ (¬ c = k + 1 ∧ pa = ⟨b, off + (k + 1) * 2, none⟩)) := by
    by_cases hc : c = k + 1
    · refine ⟨_, Lib.hid (fun wx hx => ?_), .inl ⟨hc, rfl⟩⟩
      have h1 := (HRA.out.take (k := 0) (c := 0) (by omega) (by omega) (by omega)).keep hx (fun _ _ => id)
      have h2 : XD = [] := List.eq_nil_of_length_eq_zero (by rw [← HXD.out, List.length_drop, HRA.out.len]; omega)
      rw [h2, show n - (k + 1) = 0 by omega, show c - (k + 1) = 0 by omega]
      simpa using h1
    · exact ⟨_, Lib.hid (fun wx hx => by rw [← HXD.out]; exact (HRA.out.drop (by omega)).keep hx (fun _ _ => id)), .inr ⟨hc, rfl⟩⟩
  have k0 := (HK.out w1 (Only.refl _ _)).1
  have k1 := (HK.out w1 (Only.refl _ _)).2.1
  have HZ1 := Lib.hid hz1
  have HG1 := Lib.hid hg1
  have lg1 := (HK.out w1 (Only.refl _ _)).2.2.2
  have f1 : (k : Int) ≤ (c : Int) := by omega
  have f2 : (0 : Int) ≤ (k : Int) := by omega
  have f3 : IntKind.i64.wrap ((k : Int) + 1) = (k : Int) + 1 := IntWalk.i64_in _ (by omega)
  have f4 : ((k : Int) + 1).toNat = k + 1 := by omega
  have f5 : (k : Int) + 1 ≤ (n : Int) := by omega
  have f6 : (0 : Int) ≤ (k : Int) + 1 := by omega
  have f7 : ¬ c = 0 := by omega
  have HMM : Hid (k + (n - (k + 1)) = m) := Lib.hid (by have := HM.out; omega)
  have HMB : Hid (m ≤ 100000 ∧ k ≤ 100000) := Lib.hid (by have := HM.out; omega)
  clear hb hz1 hg1 HRA
  go_upto_region 1 with fail
  go_cut [] (fun wx => ∃ a' c', Hid (Own 78 2 wx a' m c' XB ∧ (∀ j, At a' j → w1.heap.size ≤ j) ∧ Only (fun k => k = g) w1 wx ∧ wx.heap[g]? = some (.cells #[.slice a' m c', .int .i64 (many : Int)] 28 (0, 0))))
  case first =>
    have HFIN : Hid (∀ wx w4 a4 c4 m', Same w1 wx → ∀ a3 c3, (∀ j, At a3 j → w1.heap.size ≤ j) → Grew 78 2 wx w4 a3 a4 m' m c3 c4 XB → (w4.cell? ⟨g, 0, none⟩ = some (.slice (some ⟨b, off, none⟩) n c) ∧ w4.cell? ⟨g, 1, none⟩ = some (.int .i64 (many : Int)) ∧ (∀ i, w4.frozen? ⟨g, i, none⟩ = false) ∧ g < w4.heap.size) ∧ Hid (Own 78 2 (w4.setCell ⟨g, 0, none⟩ (.slice a4 m c4)) a4 m c4 XB ∧ (∀ j, At a4 j → w1.heap.size ≤ j) ∧ Only (fun k => k = g) w1 (w4.setCell ⟨g, 0, none⟩ (.slice a4 m c4)) ∧ (w4.setCell ⟨g, 0, none⟩ (.slice a4 m c4)).heap[g]? = some (.cells #[.slice a4 m c4, .int .i64 (many : Int)] 28 (0, 0)))) := Lib.hid (fun wx w4 a4 c4 m' hx a3 c3 h3 hG => by
      have h4 : Same w1 w4 := new_only hx hG.only h3
      have hO : Only (fun k => k = g) w4 (w4.setCell ⟨g, 0, none⟩ (.slice a4 m c4)) := (Only.refl (fun k => k = g) w4).setCell ⟨g, 0, none⟩ _ (fun _ => rfl)
      have hn : ∀ j, At a4 j → w1.heap.size ≤ j := fun j hj => (hG.fresh j hj).elim (h3 j) (fun h => by have := hx.size; omega)
      exact ⟨HK.out w4 h4, Lib.hid ⟨hG.own.keep hO (fun j hj e => by have := hn j hj; have e' : j = g := e; omega), hn, (h4.mono (fun _ _ f => f.elim)).trans hO (fun _ _ h => h), setCell_heap (h4.obj HG1.out id) 0 _⟩⟩)
    clear HR HS1 HZ1 HXA HXT HXD HG HG1
    rcases hpa with ⟨rfl, rfl⟩ | ⟨hc1, rfl⟩
    · obtain rfl : n = k + 1 := by omega
      clear hn hk f5 f7 hbd f1
      have f1 : (k : Int) ≤ (k : Int) + 1 := by omega
      have f8 : (0 : Int) ≤ (k : Int) + 1 := by omega
      simp only [Nat.sub_self] at HRD HMM
      go_region_law (first
        | ((with_reducible show (ite _ (Oper.wp _ _ _ (World.drew w1) _ _) _)); refine step_app k XT (by rfl) _ _ _ _ (by rfl) slEn ?_ (Own.nil _ _ _) ?_ (Rd.src (HRT.out _ (Only.drew (Only.refl _ _))) Try.underlying26) (Nat.zero_add _) (List.nil_append _) (by have := HMB.out; unfold maxLen; omega) (by have := HMB.out; omega) ?_; (go_simp); (go_simp); intro a2 c2 w2 hG; have HS2 := Lib.hid (Grew.still (Only.drew (Only.refl _ _)) hG); have HA : Hid (Own 78 2 w2 a2 k c2 XT ∧ ∀ j, At a2 j → w1.heap.size ≤ j) := Lib.hid ⟨hG.own, fun j hj => (hG.fresh j hj).resolve_left id⟩; have kk := HK.out w2 HS2.out; have k2 := kk.1; have k3 := kk.2.1; have k4 := kk.2.2.1; have lg2 := kk.2.2.2; clear hG kk)
        | ((with_reducible show (ite _ (Oper.wp _ _ _ w2 _ _) _)); refine step_app m XB (by rfl) _ _ _ _ (by rfl) slEn ?_ HA.out.1 ?_ (Rd.src (HRD.out _ HS2.out) Try.underlying26) HMM.out HXB.out (by have := HMB.out; unfold maxLen; omega) (by have := HMB.out; omega) ?_; (go_simp); (go_simp); intro a4 c4 w4 hG; have HF := HFIN.out _ w4 a4 c4 _ (HS2.out) a2 c2 HA.out.2 hG; have j1 := HF.1.1; have j2 := HF.1.2.1; have j3 := HF.1.2.2.1; have j4 := HF.1.2.2.2; have HF2 := HF.2; clear hG HF)
        | fail)
      all_goals
        go_wp2_with fail
        go_meet
        exact ⟨a4, c4, HF2⟩
    · clear hn hk hbd
      go_region_law (first
        | ((with_reducible show (ite _ (Oper.wp _ _ _ (World.drew w1) _ _) _)); refine step_app k XT (by rfl) _ _ _ _ (by rfl) slEn ?_ (Own.nil _ _ _) ?_ (Rd.src (HRT.out _ (Only.drew (Only.refl _ _))) Try.underlying26) (Nat.zero_add _) (List.nil_append _) (by have := HMB.out; unfold maxLen; omega) (by have := HMB.out; omega) ?_; (go_simp); (go_simp); intro a2 c2 w2 hG; have HS2 := Lib.hid (Grew.still (Only.drew (Only.refl _ _)) hG); have HA : Hid (Own 78 2 w2 a2 k c2 XT ∧ ∀ j, At a2 j → w1.heap.size ≤ j) := Lib.hid ⟨hG.own, fun j hj => (hG.fresh j hj).resolve_left id⟩; have kk := HK.out w2 HS2.out; have k2 := kk.1; have k3 := kk.2.1; have k4 := kk.2.2.1; have lg2 := kk.2.2.2; clear hG kk)
        | ((with_reducible show (ite _ (Oper.wp _ _ _ w2 _ _) _)); refine step_app m XB (by rfl) _ _ _ _ (by rfl) slEn ?_ HA.out.1 ?_ (Rd.src (HRD.out _ HS2.out) Try.underlying26) HMM.out HXB.out (by have := HMB.out; unfold maxLen; omega) (by have := HMB.out; omega) ?_; (go_simp); (go_simp); intro a4 c4 w4 hG; have HF := HFIN.out _ w4 a4 c4 _ (HS2.out) a2 c2 HA.out.2 hG; have j1 := HF.1.1; have j2 := HF.1.2.1; have j3 := HF.1.2.2.1; have j4 := HF.1.2.2.2; have HF2 := HF.2; clear hG HF)
        | fail)
      all_goals
        go_wp2_with fail
        go_meet
        exact ⟨a4, c4, HF2⟩
  case rest =>
    obtain ⟨a4, c4, HF⟩ := hcut
    obtain ⟨w5, hw5⟩ : ∃ w5, w5 = wc := ⟨_, rfl⟩
    rw [← hw5] at HF ⊢
    clear hw5 k0 k1 HK HRT HRD lg1 hpa f1 f2 f3 f4 f5 f6 f7
    have d0 : w5.cell? ⟨g, 0, none⟩ = some (.slice a4 m c4) := block_cell HF.out.2.2.2 rfl
    have d1 : w5.cell? ⟨g, 1, none⟩ = some (.int .i64 (many : Int)) := block_cell HF.out.2.2.2 rfl
    have hz5 := HF.out.2.2.1.obj HZ1.out (by omega)
    have d3 : w5.cell? ⟨g + 1, 0, none⟩ = some (.slice none 0 0) := block_cell hz5 rfl
    have d4 : w5.cell? ⟨g + 1, 1, none⟩ = some (.int .i64 0) := block_cell hz5 rfl
    have d5 : ∀ i, w5.frozen? ⟨g + 1, i, none⟩ = false := fun i => block_free hz5
    have HZ5 := Lib.hid hz5
    clear hz5
    go_wp2_with fail
    have t1 := setCell_heap (setCell_heap HZ5.out 0 (.slice a4 m c4)) 1 (.int .i64 (many : Int))
    have t2 : ((w5.setCell ⟨g + 1, 0, none⟩ (.slice a4 m c4)).setCell ⟨g + 1, 1, none⟩ (.int .i64 (many : Int))).cell? ⟨g + 1, 1, none⟩ = some (.int .i64 (many : Int)) := block_cell t1 rfl
    have t3 : (w5.setCell ⟨g + 1, 0, none⟩ (.slice a4 m c4)).cell? ⟨g + 1, 0, none⟩ = some (.slice a4 m c4) := block_cell (setCell_heap HZ5.out 0 _) rfl
    refine bodyPost_ret (v := .agg #[.slice a4 m c4, .int .i64 (many : Int)]) ?_ rfl ?_
    · simp [results, Try.results35, go_sem, t2, t3]
    have hO7 : Only (fun k => k = g + 1) w5 ((w5.setCell ⟨g + 1, 0, none⟩ (.slice a4 m c4)).setCell ⟨g + 1, 1, none⟩ (.int .i64 (many : Int))) := ((Only.refl (fun k => k = g + 1) _).setCell ⟨g + 1, 0, none⟩ _ (fun _ => rfl)).setCell ⟨g + 1, 1, none⟩ _ (fun _ => rfl)
    have hO8 : Only (fun k => k = g ∨ k = g + 1) w1 ((w5.setCell ⟨g + 1, 0, none⟩ (.slice a4 m c4)).setCell ⟨g + 1, 1, none⟩ (.int .i64 (many : Int))) := (HF.out.2.2.1.mono (fun k _ hk => .inl hk)).trans hO7 (fun k _ hk => .inr hk)
    have hg1l : g + 1 < w1.heap.size := lt_of_heap HZ1.out
    have hll : (L.eraseIdx k).length = m := by rw [List.length_eraseIdx, if_pos (by rw [HR.out.2]; exact hk), HR.out.2]; exact HM.out
    refine ⟨a4, c4, by show _ = Ending.returned (.agg #[.slice a4 (n - 1) c4, .int .i64 (many : Int)]); rw [HM.out], ?_, Only.trans (S := fun _ => False) HS1.out hO8 (fun k hk e => by have := HG.out; omega), fun j hj => Nat.le_trans HS1.out.size (HF.out.2.1 j hj)⟩
    rw [HM.out]
    refine ⟨?_, hll⟩
    rw [List.eraseIdx_eq_take_drop_succ, List.flatMap_append, flatMap_take enc_len, flatMap_drop enc_len, HXA.out, HXT.out, HXD.out, HXB.out]
    exact (HF.out.1.keep hO7 (fun j hj e => by have := HF.out.2.1 j hj; have e' : j = g + 1 := e; omega)).rd
end Go.Proofs.Ytpddddjfjmipfaa.fh

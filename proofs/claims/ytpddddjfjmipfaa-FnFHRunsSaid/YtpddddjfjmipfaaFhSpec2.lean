/-
  The heaps of spec: Least, lower.
-/
import Derived.Test.YtpddddjfjmipfaaFhSpec
namespace Go.Proofs.Ytpddddjfjmipfaa.fh
open Go.RowKit Go.Proofs.Ytpddddjfjmipfaa.base Go.Proofs.Ytpddddjfjmipfaa.heap Go.Proofs.Ytpddddjfjmipfaa.rows Go.Proofs.Ytpddddjfjmipfaa.flt
set_option linter.unusedVariables false

def TrP (w : World) (e : Ending) (w' : World) : Prop := e = .returned (.bool true) ∧ Same w w'
set_option maxRecDepth 100000 in
set_option maxHeartbeats 1600000 in
theorem leastC (a : Option Addr) (n c many : Nat) (L : List En) (i : Nat) (p : Int) (k : Nat) (w : World) (h : RE w a n c L) (hn : n ≤ 100000) (hk : L[k]? = some ⟨i, p⟩) (hu : ∀ r, AtI L (i : Int) r → r = (k : Int)) (hl : ∀ e ∈ L, p ≤ e.p) : Calls Try.prog 34 #[hv a n c many, .int .i64 (i : Int), .int .i64 p] w (TrP w) := by
  have HR := Lib.hid h
  have HK := Lib.hid hk
  have HL := Lib.hid hl
  have hbd := h.bound
  have hkn : k < n := by have := (List.getElem?_eq_some_iff.1 hk).1; have := h.2; omega
  have HAT : Hid (∀ wx, Same w wx → Calls Try.prog 32 #[hv a n c many, .int .i64 (i : Int)] wx fun e w' => e = .returned (.int .i64 (k : Int)) ∧ Same wx w') := Lib.hid (fun wx hx => (atC a n c many L i wx (h.still hx) hn).mono (by
    rintro e w' ⟨r, rfl, hr, hs⟩
    rw [hu r hr]
    exact ⟨rfl, hs⟩))
  clear h hk hl hu
  go_enter Try.func34, Try.ntmps34
  go_wp2_with fail
  obtain ⟨g, hg⟩ : ∃ g, w.heap.size = g := ⟨_, rfl⟩
  obtain ⟨w1, hw1⟩ : ∃ w1, (w.alloc (.cells #[.slice a n c, .int .i64 (many : Int)] 28)) = w1 := ⟨_, rfl⟩
  have HS1 : Hid (Same w w1) := Lib.hid (by rw [← hw1]; exact (Only.refl _ _).alloc _)
  have HG1 : Hid (w1.heap[g]? = some (.cells #[.slice a n c, .int .i64 (many : Int)] 28 (0, 0))) := Lib.hid (by rw [← hw1, ← hg]; exact heap_alloc_new _ _)
  have HKK : Hid (∀ wx, Same w1 wx → wx.cell? ⟨g, 0, none⟩ = some (.slice a n c) ∧ wx.cell? ⟨g, 1, none⟩ = some (.int .i64 (many : Int))) := Lib.hid (fun wx hx => by
    have h1 := hx.obj HG1.out id
    exact ⟨block_cell h1 rfl, block_cell h1 rfl⟩)
  rw [hw1, hg]
  clear hw1 hg
  have k0 := (HKK.out w1 (Only.refl _ _)).1
  have k1 := (HKK.out w1 (Only.refl _ _)).2
  go_wp2_with fail
  refine (HAT.out w1 HS1.out).mono ?_
  rintro e w2 ⟨rfl, hs2⟩
  have HS2 : Hid (Same w1 w2) := Lib.hid hs2
  have k2 := (HKK.out w2 hs2).1
  clear k0 k1 HAT hs2
  go_wp2_with fail
  go_loopw [16] (fun i wr => ∃ j : Nat, i = .int .i64 (j : Int) ∧ j ≤ n ∧ Hid (Same w1 wr)) (fun i _ => n - (intOf i).toNat)
  case atStart => exact ⟨0, rfl, Nat.zero_le _, HS2⟩
  case round =>
    obtain ⟨j, rfl, hj, HS⟩ := hrel
    by_cases hlt : j < n
    · have hlt' : (j : Int) < (n : Int) := by omega
      obtain ⟨e, he⟩ := HR.out.get hlt
      obtain ⟨b, off, rfl, hb, hc⟩ := ((HR.out.still HS1.out).still HS.out).at enc_len (by omega)
      have c0 : wr.cell? ⟨b, off + j * 2, none⟩ = some (.int .i64 (e.n : Int)) := hc j e he 0 _ rfl
      have c1 : wr.cell? ⟨b, off + j * 2 + 1, none⟩ = some (.int .i64 e.p) := hc j e he 1 _ rfl
      have hle : ¬ e.p < p := by have := HL.out e (List.mem_of_getElem? he); omega
      have HSA : Hid (Same w1 (wr.alloc (.cells #[.int .i64 (e.n : Int), .int .i64 e.p] 78))) := Lib.hid (HS.out.alloc _)
      clear hc he k2
      go_wp2_with fail
      go_roundw
      case rel => exact ⟨j + 1, by go_num, by omega, HSA⟩
      case measure => simp [intOf]; omega
    · have hlt' : ¬ (j : Int) < (n : Int) := by omega
      obtain rfl : j = n := by omega
      have k3 := (HKK.out wr HS.out).1
      obtain ⟨b, off, rfl, hb, hc⟩ := ((HR.out.still HS1.out).still HS.out).at enc_len (by omega)
      have c1 : wr.cell? ⟨b, off + k * 2 + 1, none⟩ = some (.int .i64 p) := hc k _ HK.out 1 _ rfl
      have hk0 : (0 : Int) ≤ (k : Int) := by omega
      have hkn' : (k : Int) < (j : Int) := by omega
      clear hc k2
      go_wp2_with fail
      go_ret
      exact ⟨rfl, HS1.out.trans HS.out⟩
theorem enc_set : ∀ (L : List En) (k : Nat) (e : En) (p : Int), L[k]? = some e → (L.flatMap enc).set (k * 2 + 1) (.int .i64 p) = (L.set k ⟨e.n, p⟩).flatMap enc
  | [], k, e, p, h => by simp at h
  | x :: L, 0, e, p, h => by
    simp at h
    subst h
    rfl
  | x :: L, k + 1, e, p, h => by
    have ih := enc_set L k e p (by simpa using h)
    show (_ :: _ :: L.flatMap enc).set ((k + 1) * 2 + 1) _ = _ :: _ :: (L.set k ⟨e.n, p⟩).flatMap enc
    rw [← ih, show (k + 1) * 2 + 1 = (k * 2 + 1) + 1 + 1 by omega, List.set_cons_succ, List.set_cons_succ]
def LwP (L : List En) (n many k : Nat) (x : En) (w : World) (e : Ending) (w' : World) : Prop := ∃ a' c', e = .returned (hv a' n c' many) ∧ RE w' a' n c' (L.set k x) ∧ Same w w' ∧ ∀ j, At a' j → w.heap.size ≤ j
set_option maxRecDepth 100000 in
set_option maxHeartbeats 3200000 in
theorem lowerC (a : Option Addr) (n c many : Nat) (L : List En) (k : Nat) (e : En) (p : Int) (w : World) (h : RE w a n c L) (hn : n ≤ 100000) (hk : L[k]? = some e) : Calls Try.prog 36 #[hv a n c many, .int .i64 (k : Int), .int .i64 p] w (LwP L n many k ⟨e.n, p⟩ w) := by
  have HR := Lib.hid h
  have HK := Lib.hid hk
  have hbd := h.bound
  have hkn : k < n := by have := (List.getElem?_eq_some_iff.1 hk).1; have := h.2; omega
  clear h hk
  go_enter Try.func36, Try.ntmps36
  go_upto_region 1 with fail
  obtain ⟨w1, hw1⟩ : ∃ w1, ((w.alloc (.cells #[.slice a n c, .int .i64 (many : Int)] 28)).alloc (.cells #[.slice none 0 0, .int .i64 0] 28)) = w1 := ⟨_, rfl⟩
  have HS1 : Hid (Same w w1) := Lib.hid (by rw [← hw1]; exact ((Only.refl _ _).alloc _).alloc _)
  have hg1 : w1.heap[w.heap.size]? = some (.cells #[.slice a n c, .int .i64 (many : Int)] 28 (0, 0)) := by
    rw [← hw1]
    show ((w.heap.push _).push _)[w.heap.size]? = _
    rw [Array.getElem?_push, if_neg (by simp), Array.getElem?_push, if_pos rfl]
  have hz1 : w1.heap[w.heap.size + 1]? = some (.cells #[.slice none 0 0, .int .i64 0] 28 (0, 0)) := by rw [← hw1]; exact heap_alloc_new' _ _ _ (by simp)
  rw [hw1]
  clear hw1
  obtain ⟨g, hg⟩ : ∃ g, w.heap.size = g := ⟨_, rfl⟩
  have HG := Lib.hid hg
  rw [hg] at hg1 hz1 ⊢
  clear hg
  have k0 : w1.cell? ⟨g, 0, none⟩ = some (.slice a n c) := block_cell hg1 rfl
  have HG1 := Lib.hid hg1
  have HZ1 := Lib.hid hz1
  clear hg1 hz1
  obtain ⟨XA, HXA⟩ : ∃ XA, Hid (L.flatMap enc = XA) := ⟨_, Lib.hid rfl⟩
  have HRS : Hid (Rd 2 w1 a n c XA) := Lib.hid (by rw [← HXA.out]; exact (HR.out.still HS1.out).1)
  go_wp2_with (at_builtin; refine wpList_append n XA rfl _ _ _ _ rfl slEn rfl (Own.nil _ _ _) rfl (Rd.src HRS.out Try.underlying26) (Nat.zero_add _) (List.nil_append _) (by unfold maxLen; omega) (by omega) ?_)
  intro a2 c2 w2 hG
  have HS2 : Hid (Same w1 w2) := Lib.hid (Grew.still (Only.refl _ _) hG)
  have HO := Lib.hid hG.own
  have hfr := hG.fresh
  clear hG k0 HRS
  obtain ⟨b2, rfl, hb2, hc2⟩ := HO.out.at (by omega)
  have hg2 := HS2.out.obj HG1.out id
  have hz2 := HS2.out.obj HZ1.out id
  have hbg : g + 1 < b2 := by
    have h1 := (hfr b2 rfl).resolve_left id
    have h2 := lt_of_heap HZ1.out
    omega
  have m0 : w2.cell? ⟨g, 0, none⟩ = some (.slice a n c) := block_cell hg2 rfl
  have m1 : w2.cell? ⟨g, 1, none⟩ = some (.int .i64 (many : Int)) := block_cell hg2 rfl
  have m2 : ∀ i, w2.frozen? ⟨g, i, none⟩ = false := fun i => block_free hg2
  have m3 : w2.cell? ⟨g + 1, 0, none⟩ = some (.slice none 0 0) := block_cell hz2 rfl
  have m4 : w2.cell? ⟨g + 1, 1, none⟩ = some (.int .i64 0) := block_cell hz2 rfl
  have m5 : ∀ i, w2.frozen? ⟨g + 1, i, none⟩ = false := fun i => block_free hz2
  have hne : ¬ b2 = g := by omega
  have hne2 : ¬ b2 = g + 1 := by omega
  have hne' : ¬ g = b2 := by omega
  have hne2' : ¬ g + 1 = b2 := by omega
  have hkn' : (k : Int) < (n : Int) := by omega
  have HZ2 := Lib.hid hz2
  have HG2 := Lib.hid hg2
  obtain ⟨cur, hcur⟩ : ∃ cur, w2.heap[b2]? = some (.cells cur 78 (0, 0)) := by
    rcases HO.out.alt with ⟨hc, _⟩ | ⟨b', cur, hb', hh, _⟩
    · cases hc
    · cases hb'
      exact ⟨cur, hh⟩
  have m6 : ∀ i, w2.frozen? ⟨b2, i, none⟩ = false := fun i => block_free hcur
  have m7 : w2.cell? ⟨b2, k * 2 + 1, none⟩ = some (.int .i64 e.p) := by
    have h1 := hc2 (k * 2 + 1) (.int .i64 e.p) (by rw [← HXA.out]; exact flat_get enc_len L k 1 e _ HK.out rfl)
    rwa [Nat.zero_add] at h1
  clear hc2 hg2 hz2 hcur hfr
  go_wp2_with fail
  obtain ⟨w3, hw3⟩ : ∃ w3, (w2.setCell ⟨g, 0, none⟩ (.slice (some ⟨b2, 0, none⟩) n c2)) = w3 := ⟨_, rfl⟩
  have ho3 : Only (fun k => k = g) w2 w3 := by rw [← hw3]; exact (Only.refl (fun k => k = g) _).setCell ⟨g, 0, none⟩ _ (fun _ => rfl)
  rw [hw3]
  have own3 := HO.out.keep ho3 (fun j hj e => by have hj' : b2 = j := hj; have e' : j = g := e; omega)
  have own4 := own3.set rfl (k * 2 + 1) (.int .i64 p) rfl (by omega)
  obtain ⟨w4, hw4⟩ : ∃ w4, (w3.setCell ⟨b2, k * 2 + 1, none⟩ (.int .i64 p)) = w4 := ⟨_, rfl⟩
  have ho4 : Only (fun k => k = b2) w3 w4 := by rw [← hw4]; exact (Only.refl (fun k => k = b2) _).setCell ⟨b2, k * 2 + 1, none⟩ _ (fun _ => rfl)
  rw [hw4] at own4 ⊢
  have hz4 := ho4.obj (ho3.obj HZ2.out (by omega)) (fun e => by have e' : g + 1 = b2 := e; omega)
  have t1 := setCell_heap (setCell_heap hz4 0 (.slice (some ⟨b2, 0, none⟩) n c2)) 1 (.int .i64 (many : Int))
  have t2 : ((w4.setCell ⟨g + 1, 0, none⟩ (.slice (some ⟨b2, 0, none⟩) n c2)).setCell ⟨g + 1, 1, none⟩ (.int .i64 (many : Int))).cell? ⟨g + 1, 1, none⟩ = some (.int .i64 (many : Int)) := block_cell t1 rfl
  have t3 : (w4.setCell ⟨g + 1, 0, none⟩ (.slice (some ⟨b2, 0, none⟩) n c2)).cell? ⟨g + 1, 0, none⟩ = some (.slice (some ⟨b2, 0, none⟩) n c2) := block_cell (setCell_heap hz4 0 _) rfl
  refine bodyPost_ret (v := .agg #[.slice (some ⟨b2, 0, none⟩) n c2, .int .i64 (many : Int)]) ?_ rfl ?_
  · simp [results, Try.results36, go_sem, t2, t3]
  have hO7 : Only (fun k => k = g + 1) w4 ((w4.setCell ⟨g + 1, 0, none⟩ (.slice (some ⟨b2, 0, none⟩) n c2)).setCell ⟨g + 1, 1, none⟩ (.int .i64 (many : Int))) := ((Only.refl (fun k => k = g + 1) _).setCell ⟨g + 1, 0, none⟩ _ (fun _ => rfl)).setCell ⟨g + 1, 1, none⟩ _ (fun _ => rfl)
  have hO8 : Only (fun k => k = g ∨ k = b2 ∨ k = g + 1) w2 ((w4.setCell ⟨g + 1, 0, none⟩ (.slice (some ⟨b2, 0, none⟩) n c2)).setCell ⟨g + 1, 1, none⟩ (.int .i64 (many : Int))) := ((ho3.mono (fun k _ hk => .inl hk)).trans ho4 (fun k _ hk => .inr (.inl hk))).trans hO7 (fun k _ hk => .inr (.inr hk))
  refine ⟨_, c2, rfl, ⟨?_, by rw [List.length_set]; exact HR.out.2⟩, Only.trans (S := fun _ => False) (HS1.out.trans HS2.out) hO8 (fun j hj e => by have := HG.out; omega), fun j hj => by have hj' : b2 = j := hj; have := HG.out; omega⟩
  rw [← enc_set L k e p HK.out, HXA.out]
  exact (own4.keep hO7 (fun j hj e => by have hj' : b2 = j := hj; have e' : j = g + 1 := e; omega)).rd
end Go.Proofs.Ytpddddjfjmipfaa.fh

/-
  The heaps of spec: at, Least, with.
-/
import Derived.Test.YtpddddjfjmipfaaFhRun
namespace Go.Proofs.Ytpddddjfjmipfaa.fh
open Go.RowKit Go.Proofs.Ytpddddjfjmipfaa.base Go.Proofs.Ytpddddjfjmipfaa.heap Go.Proofs.Ytpddddjfjmipfaa.rows Go.Proofs.Ytpddddjfjmipfaa.flt
set_option linter.unusedVariables false

/-- an entry -/
structure En where
  n : Nat
  p : Int
def enc (x : En) : List Value := [.int .i64 (x.n : Int), .int .i64 x.p]
theorem enc_len (s : En) : (enc s).length = 2 := rfl
theorem enc_one (x : En) : ∀ u ∈ enc x, u.oneCell' = true := by
  intro u hu
  simp only [enc, List.mem_cons, List.not_mem_nil, or_false] at hu
  rcases hu with rfl | rfl <;> rfl
abbrev RE := RS enc 2
abbrev hv (a : Option Addr) (n c : Nat) (many : Nat) : Value := .agg #[.slice a n c, .int .i64 (many : Int)]
theorem slEn : SliceOf Try.prog 26 78 2 16 := SliceOf.mk (z := .agg #[.int .i64 0, .int .i64 0]) Try.underlying26 (by kernel_rfl) rfl
/-- where the entry with a number stands -/
def AtI (L : List En) (x r : Int) : Prop := (∃ (i : Nat) (e : En), L[i]? = some e ∧ (e.n : Int) = x ∧ r = (i : Int)) ∨ ((∀ e ∈ L, (e.n : Int) ≠ x) ∧ r = -1)
def AtP (L : List En) (x : Int) (w : World) (e : Ending) (w' : World) : Prop := ∃ r, e = .returned (.int .i64 r) ∧ AtI L x r ∧ Same w w'
set_option maxRecDepth 100000 in
set_option maxHeartbeats 1600000 in
theorem atC (a : Option Addr) (n c many : Nat) (L : List En) (x : Int) (w : World) (h : RE w a n c L) (hn : n ≤ 100000) : Calls Try.prog 32 #[hv a n c many, .int .i64 x] w (AtP L x w) := by
  have HR := Lib.hid h
  have hbd := h.bound
  clear h
  go_enter Try.func32, Try.ntmps32
  go_wp2_with fail
  have HS0 : Hid (Same w (w.alloc (.cells #[.slice a n c, .int .i64 (many : Int)] 28))) := Lib.hid ((Only.refl _ _).alloc _)
  generalize (w.alloc (.cells #[.slice a n c, .int .i64 (many : Int)] 28)) = w1 at HS0 ⊢
  go_loopw [10] (fun i wr => ∃ j : Nat, i = .int .i64 (j : Int) ∧ j ≤ n ∧ Hid (Same w wr) ∧ Hid (∀ e ∈ L.take j, (e.n : Int) ≠ x)) (fun i _ => n - (intOf i).toNat)
  case atStart => exact ⟨0, rfl, Nat.zero_le _, HS0, Lib.hid (fun e he => by simp at he)⟩
  case round =>
    obtain ⟨j, rfl, hj, HS, HN⟩ := hrel
    by_cases hlt : j < n
    · have hlt' : (j : Int) < (n : Int) := by omega
      obtain ⟨e, he⟩ := HR.out.get hlt
      obtain ⟨b, off, rfl, hb, hc⟩ := (HR.out.still HS.out).at enc_len (by omega)
      have c0 : wr.cell? ⟨b, off + j * 2, none⟩ = some (.int .i64 (e.n : Int)) := hc j e he 0 _ rfl
      have c1 : wr.cell? ⟨b, off + j * 2 + 1, none⟩ = some (.int .i64 e.p) := hc j e he 1 _ rfl
      have HE := Lib.hid he
      obtain ⟨y, hy⟩ : ∃ y, (e.n : Int) = y := ⟨_, rfl⟩
      have HY := Lib.hid hy
      rw [hy] at c0
      have HS2 : Hid (Same w (wr.alloc (.cells #[.int .i64 y, .int .i64 e.p] 78))) := Lib.hid (HS.out.alloc _)
      clear hc he hy
      by_cases hx : y = x
      · have HX := Lib.hid hx
        have hxb : (y == x) = true := by simpa using hx
        subst hx
        go_wp2_with fail
        go_ret
        exact ⟨_, rfl, .inl ⟨j, e, HE.out, HY.out, rfl⟩, HS2.out⟩
      · have hxb : (y == x) = false := by simpa using hx
        have HN2 : Hid (∀ e ∈ L.take (j + 1), (e.n : Int) ≠ x) := Lib.hid (by
          rw [take_snoc L j e HE.out]
          intro u hu
          rcases List.mem_append.1 hu with hu | hu
          · exact HN.out u hu
          · simp at hu; subst hu; rw [HY.out]; exact hx)
        clear HN
        go_wp2_with fail
        go_roundw
        case rel => exact ⟨j + 1, by go_num, by omega, HS2, HN2⟩
        case measure => simp [intOf]; omega
    · have hlt' : ¬ (j : Int) < (n : Int) := by omega
      obtain rfl : j = n := by omega
      go_wp2_with fail
      go_ret
      have := HN.out
      rw [List.take_of_length_le (by rw [HR.out.2]; exact Nat.le_refl _)] at this
      exact ⟨-1, rfl, .inr ⟨this, rfl⟩, HS.out⟩
theorem Grew.still {e size : Nat} {w w1 w2 : World} {a' : Option Addr} {m N cap cap' : Nat} {XS : List Value} (hs : Same w w1) (hG : Grew e size w1 w2 none a' m N cap cap' XS) : Same w w2 := Only.trans (S := fun _ => False) hs hG.only (fun _ _ h => h.elim)
/-- one more entry -/
def WiP (L : List En) (n many : Nat) (p : Int) (w : World) (e : Ending) (w' : World) : Prop := ∃ a' c', e = .returned (hv a' (n + 1) c' (many + 1)) ∧ RE w' a' (n + 1) c' (L ++ [⟨many, p⟩]) ∧ Same w w' ∧ ∀ j, At a' j → w.heap.size ≤ j
set_option maxRecDepth 100000 in
set_option maxHeartbeats 6400000 in
theorem withC (a : Option Addr) (n c many : Nat) (L : List En) (p : Int) (w : World) (h : RE w a n c L) (hn : n ≤ 100000) (hm : many ≤ 100000) : Calls Try.prog 33 #[hv a n c many, .int .i64 p] w (WiP L n many p w) := by
  have HR := Lib.hid h
  have hbd := h.bound
  clear h
  go_enter Try.func33, Try.ntmps33
  go_wp2_with fail
  obtain ⟨w1, hw1⟩ : ∃ w1, ((w.alloc (.cells #[.slice a n c, .int .i64 (many : Int)] 28)).alloc (.cells #[.slice none 0 0, .int .i64 0] 28)) = w1 := ⟨_, rfl⟩
  have HS1 : Hid (Same w w1) := Lib.hid (by rw [← hw1]; exact ((Only.refl _ _).alloc _).alloc _)
  have hg1 : w1.heap[w.heap.size]? = some (.cells #[.slice a n c, .int .i64 (many : Int)] 28 (0, 0)) := by
    rw [← hw1]
    show ((w.heap.push _).push _)[w.heap.size]? = _
    rw [Array.getElem?_push, if_neg (by simp), Array.getElem?_push, if_pos rfl]
  have hz1 : w1.heap[w.heap.size + 1]? = some (.cells #[.slice none 0 0, .int .i64 0] 28 (0, 0)) := by rw [← hw1]; exact heap_alloc_new' _ _ _ (by simp)
  rw [hw1]
  clear hw1
  obtain ⟨g, hg⟩ : ∃ g, w.heap.size = g := ⟨_, rfl⟩
  have HG := Lib.hid hg
  rw [hg] at hg1 hz1 ⊢
  clear hg
  have HK : Hid (∀ wx, Same w1 wx → wx.cell? ⟨g, 0, none⟩ = some (.slice a n c) ∧ wx.cell? ⟨g, 1, none⟩ = some (.int .i64 (many : Int)) ∧ (∀ i, wx.frozen? ⟨g, i, none⟩ = false) ∧ g < wx.heap.size) := Lib.hid (fun wx hx => by
    have h1 := hx.obj hg1 id
    exact ⟨block_cell h1 rfl, block_cell h1 rfl, fun i => block_free h1, lt_of_heap h1⟩)
  have HRS : Hid (∀ wx, Same w1 wx → Rd 2 wx a n c (L.flatMap enc)) := Lib.hid (fun wx hx => ((HR.out.still HS1.out).still hx).1)
  have k0 := (HK.out w1 (Only.refl _ _)).1
  have k1 := (HK.out w1 (Only.refl _ _)).2.1
  have HZ1 := Lib.hid hz1
  have HG1 := Lib.hid hg1
  obtain ⟨XA, HXA⟩ : ∃ XA, Hid (L.flatMap enc = XA) := ⟨_, Lib.hid rfl⟩
  obtain ⟨XB, HXB⟩ : ∃ XB, Hid (XA ++ enc ⟨many, p⟩ = XB) := ⟨_, Lib.hid rfl⟩
  rw [HXA.out] at HRS
  have HHS1 := HS1
  have lg1 := (HK.out w1 (Only.refl _ _)).2.2.2
  go_upto_region 1 with fail
  go_cut [] (fun wx => ∃ a' c', Hid (Own 78 2 wx a' (n + 1) c' XB ∧ (∀ j, At a' j → w1.heap.size ≤ j) ∧ Only (fun k => k = g) w1 wx ∧ wx.heap[g]? = some (.cells #[.slice a' (n + 1) c', .int .i64 (many : Int)] 28 (0, 0))))
  case first =>
    have HROW : Hid (∀ wx : World, (wx.alloc (.cells #[.int .i64 (many : Int), .int .i64 p] 78)).drew.heap[wx.heap.size]? = some (.cells #[.int .i64 (many : Int), .int .i64 p] 78 (0, 0))) := Lib.hid (fun wx => heap_alloc_new wx _)
    have HFIN : Hid (∀ wx w4 a4 c4, Same w1 wx → ∀ a3 c3, (∀ j, At a3 j → w1.heap.size ≤ j) → Grew 78 2 wx w4 a3 a4 1 (n + 1) c3 c4 XB → (w4.cell? ⟨g, 0, none⟩ = some (.slice a n c) ∧ w4.cell? ⟨g, 1, none⟩ = some (.int .i64 (many : Int)) ∧ (∀ i, w4.frozen? ⟨g, i, none⟩ = false) ∧ g < w4.heap.size) ∧ Hid (Own 78 2 (w4.setCell ⟨g, 0, none⟩ (.slice a4 (n + 1) c4)) a4 (n + 1) c4 XB ∧ (∀ j, At a4 j → w1.heap.size ≤ j) ∧ Only (fun k => k = g) w1 (w4.setCell ⟨g, 0, none⟩ (.slice a4 (n + 1) c4)) ∧ (w4.setCell ⟨g, 0, none⟩ (.slice a4 (n + 1) c4)).heap[g]? = some (.cells #[.slice a4 (n + 1) c4, .int .i64 (many : Int)] 28 (0, 0)))) := Lib.hid (fun wx w4 a4 c4 hx a3 c3 h3 hG => by
      have h4 : Same w1 w4 := new_only hx hG.only h3
      have hO : Only (fun k => k = g) w4 (w4.setCell ⟨g, 0, none⟩ (.slice a4 (n + 1) c4)) := (Only.refl (fun k => k = g) w4).setCell ⟨g, 0, none⟩ _ (fun _ => rfl)
      have hn : ∀ j, At a4 j → w1.heap.size ≤ j := fun j hj => (hG.fresh j hj).elim (h3 j) (fun h => by have := hx.size; omega)
      exact ⟨HK.out w4 h4, Lib.hid ⟨hG.own.keep hO (fun j hj e => by have := hn j hj; have e' : j = g := e; omega), hn, (h4.mono (fun _ _ f => f.elim)).trans hO (fun _ _ h => h), setCell_heap (h4.obj HG1.out id) 0 _⟩⟩)
    clear HR HS1 HHS1 hg1 hz1 HZ1 HXA HG hbd hm HG1
    go_region_law (first
      | ((with_reducible show (ite _ (Oper.wp _ _ _ (World.drew (World.alloc w1 _)) _ _) _)); refine step_app n XA (by rfl) _ _ _ _ (by rfl) slEn ?_ (Own.nil _ _ _) ?_ (Rd.src (HRS.out _ (Only.drew (Only.alloc (Only.refl _ _) _))) Try.underlying26) (Nat.zero_add _) (List.nil_append _) (by unfold maxLen; omega) (by omega) ?_; (go_simp); (go_simp); intro a2 c2 w2 hG; have HS2 := Lib.hid (Grew.still (Only.drew (Only.alloc (Only.refl _ _) _)) hG); have HA : Hid (Own 78 2 w2 a2 n c2 XA ∧ ∀ j, At a2 j → w1.heap.size ≤ j) := Lib.hid ⟨hG.own, fun j hj => Nat.le_trans ((Only.refl (fun _ => False) w1).alloc (.cells #[.int .i64 (many : Int), .int .i64 p] 78)).drew.size ((hG.fresh j hj).resolve_left id)⟩; have hrow := (Only.mono (T := fun _ => False) hG.only (fun _ _ h => h.elim)).obj (HROW.out w1) id; have kk := HK.out w2 HS2.out; have k2 := kk.1; have k3 := kk.2.1; have k4 := kk.2.2.1; clear hG kk)
      | ((with_reducible show (ite _ (Oper.wp _ _ _ (World.drew w1) _ _) _)); refine step_app n XA (by rfl) _ _ _ _ (by rfl) slEn ?_ (Own.nil _ _ _) ?_ (Rd.src (HRS.out _ (Only.drew (Only.refl _ _))) Try.underlying26) (Nat.zero_add _) (List.nil_append _) (by unfold maxLen; omega) (by omega) ?_; (go_simp); (go_simp); intro a2 c2 w2 hG; have HS2 := Lib.hid (Grew.still (Only.drew (Only.refl _ _)) hG); have HA : Hid (Own 78 2 w2 a2 n c2 XA ∧ ∀ j, At a2 j → w1.heap.size ≤ j) := Lib.hid ⟨hG.own, fun j hj => (hG.fresh j hj).resolve_left id⟩; have kk := HK.out w2 HS2.out; have k2 := kk.1; have k3 := kk.2.1; have k4 := kk.2.2.1; have lg2 := kk.2.2.2; clear hG kk)
      | ((with_reducible show (ite _ (Oper.wp _ _ _ (World.alloc w2 _) _ _) _)); refine step_app (n + 1) XB (by rfl) _ _ _ _ (by rfl) slEn ?_ (HA.out.1.keep (S := fun _ => False) ((Only.refl _ _).alloc _) (fun _ _ => id)) ?_ (Src.row (size := 2) (cs := #[.int .i64 (many : Int), .int .i64 p]) (t := 78) (fr := (0, 0)) Try.underlying26 (by exact heap_alloc_new _ _) 1 1 rfl (by simp [Value.oneCell'])) rfl HXB.out (by unfold maxLen; omega) (by omega) ?_; (go_simp); (go_simp); intro a4 c4 w4 hG; have HF := HFIN.out _ w4 a4 c4 (HS2.out.alloc _) a2 c2 HA.out.2 hG; have j1 := HF.1.1; have j2 := HF.1.2.1; have j3 := HF.1.2.2.1; have j4 := HF.1.2.2.2; have HF2 := HF.2; clear hG HF)
      | ((with_reducible show (ite _ (Oper.wp _ _ _ w2 _ _) _)); refine step_app (n + 1) XB (by rfl) _ _ _ _ (by rfl) slEn ?_ HA.out.1 ?_ (Src.row (size := 2) (cs := #[.int .i64 (many : Int), .int .i64 p]) (t := 78) (fr := (0, 0)) Try.underlying26 hrow 1 1 rfl (by simp [Value.oneCell'])) rfl HXB.out (by unfold maxLen; omega) (by omega) ?_; (go_simp); (go_simp); intro a4 c4 w4 hG; have HF := HFIN.out _ w4 a4 c4 (HS2.out) a2 c2 HA.out.2 hG; have j1 := HF.1.1; have j2 := HF.1.2.1; have j3 := HF.1.2.2.1; have j4 := HF.1.2.2.2; have HF2 := HF.2; clear hG HF)
      | fail)
    all_goals
      go_wp2_with fail
      go_meet
      exact ⟨a4, c4, HF2⟩
  case rest =>
    obtain ⟨a4, c4, HF⟩ := hcut
    obtain ⟨w5, hw5⟩ : ∃ w5, w5 = wc := ⟨_, rfl⟩
    rw [← hw5] at HF ⊢
    clear hw5 k0 k1 HK HRS lg1
    have d0 : w5.cell? ⟨g, 0, none⟩ = some (.slice a4 (n + 1) c4) := block_cell HF.out.2.2.2 rfl
    have d1 : w5.cell? ⟨g, 1, none⟩ = some (.int .i64 (many : Int)) := block_cell HF.out.2.2.2 rfl
    have d2 : ∀ i, w5.frozen? ⟨g, i, none⟩ = false := fun i => block_free HF.out.2.2.2
    have hz5 := HF.out.2.2.1.obj HZ1.out (by omega)
    have d3 : w5.cell? ⟨g + 1, 0, none⟩ = some (.slice none 0 0) := block_cell hz5 rfl
    have d4 : w5.cell? ⟨g + 1, 1, none⟩ = some (.int .i64 0) := block_cell hz5 rfl
    have d5 : ∀ i, w5.frozen? ⟨g + 1, i, none⟩ = false := fun i => block_free hz5
    have HZ5 := Lib.hid hz5
    clear hz5 hg1 hz1
    go_wp2_with fail
    obtain ⟨w6, hw6⟩ : ∃ w6, w5.setCell ⟨g, 1, none⟩ (.int .i64 ((many : Int) + 1)) = w6 := ⟨_, rfl⟩
    have ho6 : Only (fun k => k = g) w5 w6 := by rw [← hw6]; exact (Only.refl (fun k => k = g) _).setCell ⟨g, 1, none⟩ _ (fun _ => rfl)
    have hz6 := ho6.obj HZ5.out (by omega)
    have t1 := setCell_heap (setCell_heap hz6 0 (.slice a4 (n + 1) c4)) 1 (.int .i64 ((many : Int) + 1))
    have t2 : ((w6.setCell ⟨g + 1, 0, none⟩ (.slice a4 (n + 1) c4)).setCell ⟨g + 1, 1, none⟩ (.int .i64 ((many : Int) + 1))).cell? ⟨g + 1, 1, none⟩ = some (.int .i64 ((many : Int) + 1)) := block_cell t1 rfl
    have t3 : (w6.setCell ⟨g + 1, 0, none⟩ (.slice a4 (n + 1) c4)).cell? ⟨g + 1, 0, none⟩ = some (.slice a4 (n + 1) c4) := block_cell (setCell_heap hz6 0 (.slice a4 (n + 1) c4)) rfl
    rw [hw6]
    have e1 : ((many + 1 : Nat) : Int) = (many : Int) + 1 := by omega
    refine bodyPost_ret (v := .agg #[.slice a4 (n + 1) c4, .int .i64 ((many : Int) + 1)]) ?_ rfl ?_
    · simp [results, Try.results33, go_sem, t2, t3]
    have hO7 : Only (fun k => k = g + 1) w6 ((w6.setCell ⟨g + 1, 0, none⟩ (.slice a4 (n + 1) c4)).setCell ⟨g + 1, 1, none⟩ (.int .i64 ((many : Int) + 1))) := ((Only.refl (fun k => k = g + 1) _).setCell ⟨g + 1, 0, none⟩ _ (fun _ => rfl)).setCell ⟨g + 1, 1, none⟩ _ (fun _ => rfl)
    have hO8 : Only (fun k => k = g ∨ k = g + 1) w1 ((w6.setCell ⟨g + 1, 0, none⟩ (.slice a4 (n + 1) c4)).setCell ⟨g + 1, 1, none⟩ (.int .i64 ((many : Int) + 1))) := ((HF.out.2.2.1.mono (fun k _ hk => .inl hk)).trans ho6 (fun k _ hk => .inl hk)).trans hO7 (fun k _ hk => .inr hk)
    have hg1l : g + 1 < w1.heap.size := lt_of_heap HZ1.out
    refine ⟨a4, c4, by show _ = Ending.returned (.agg #[.slice a4 (n + 1) c4, .int .i64 ((many + 1 : Nat) : Int)]); rw [e1], ⟨?_, by rw [List.length_append, HR.out.2]; rfl⟩, Only.trans (S := fun _ => False) HS1.out hO8 (fun k hk e => by have := HG.out; omega), fun j hj => Nat.le_trans HS1.out.size (HF.out.2.1 j hj)⟩
    rw [List.flatMap_append, HXA.out]
    show Rd 2 _ a4 (n + 1) c4 (XA ++ ([(⟨many, p⟩ : En)].flatMap enc))
    rw [show [(⟨many, p⟩ : En)].flatMap enc = enc ⟨many, p⟩ by simp, HXB.out]
    exact ((HF.out.1.keep ho6 (fun j hj e => by have := HF.out.2.1 j hj; have e' : j = g := e; omega)).keep hO7 (fun j hj e => by have := HF.out.2.1 j hj; have e' : j = g + 1 := e; omega)).rd
end Go.Proofs.Ytpddddjfjmipfaa.fh

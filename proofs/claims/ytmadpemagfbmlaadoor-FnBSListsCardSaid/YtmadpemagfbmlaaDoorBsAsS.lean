/-
  Bitsets: AsSlice: the places of the bits that are set, into a row.
-/
import Derived.Test.YtmadpemagfbmlaaDoorBsApp
namespace Go.Proofs.YtmadpemagfbmlaaDoor.bs
open Go.RowKit Go.Proofs.YtmadpemagfbmlaaDoor.base Go.Proofs.YtmadpemagfbmlaaDoor.heap Go.Proofs.YtmadpemagfbmlaaDoor.bit
set_option linter.unusedVariables false

/-- a row of C numbers: L stands at its head, 0 behind it -/
def Rw (g C : Nat) (L : List Nat) (w : World) : Prop := Own 22 1 w (some ⟨g, 0, none⟩) C C (U (L ++ List.replicate (C - L.length) 0)) ∧ L.length ≤ C
theorem Rw.free {g C : Nat} {L : List Nat} {w : World} (h : Rw g C L w) (j : Nat) : w.frozen? ⟨g, j, none⟩ = false := h.1.frozen rfl j
theorem Rw.cell {g C : Nat} {L : List Nat} {w : World} (h : Rw g C L w) (j : Nat) (hj : j < C) : w.cell? ⟨g, j, none⟩ = some (.int .u64 ((L ++ List.replicate (C - L.length) 0).getD j 0 : Nat)) := by
  obtain ⟨b', hb', _, hc⟩ := h.1.at (by omega)
  cases hb'
  have hl := h.2
  have := hc j _ (U_get _ j (by rw [List.length_append, List.length_replicate]; omega))
  simpa using this
theorem set_next (L : List Nat) (x d : Nat) : (L ++ List.replicate (d + 1) 0).set L.length x = L ++ [x] ++ List.replicate d 0 := by
  induction L with
  | nil => simp [List.replicate_succ]
  | cons y L ih => simpa using ih
theorem Rw.store {g C n : Nat} {L : List Nat} {w : World} (h : Rw g C L w) (hn : L.length = n) (hl : n < C) (x : Nat) : Rw g C (L ++ [x]) (w.setCell ⟨g, n, none⟩ (.int .u64 (x : Int))) := by
  have h1 := h.1.set rfl n (.int .u64 (x : Int)) rfl (by omega)
  rw [U_set, ← hn, show C - L.length = C - (L ++ [x]).length + 1 by simp; omega, set_next, hn] at h1
  exact ⟨h1, by simp; omega⟩
theorem Rw.keep {g C : Nat} {L : List Nat} {w w' : World} (h : Rw g C L w) (he : w'.heap = w.heap) : Rw g C L w' := ⟨h.1.of_heap he, h.2⟩
theorem Rw.ru {g C n : Nat} {L : List Nat} {w : World} (h : Rw g C L w) (hn : L.length = n) : RU w (some ⟨g, 0, none⟩) n C L := by
  subst hn
  have hl := h.2
  have hr := h.1.rd
  refine ⟨⟨by rw [U_len]; omega, hl, hr.max, U_one _, fun h0 => ?_, fun e => by cases e⟩, rfl⟩
  obtain ⟨b, off, ha, hb, hc⟩ := hr.cells (by omega)
  refine ⟨b, off, ha, hb, fun j v hj => hc j v ?_⟩
  have hj2 : j < L.length := by
    have := (List.getElem?_eq_some_iff.1 hj).1
    rwa [U_len] at this
  rw [← U_app, List.getElem?_append_left (by rw [U_len]; exact hj2)]
  exact hj
theorem onesTo_len (b : List Bool) (j : Nat) : (onesTo b j).length ≤ (ones b).length := by
  by_cases h : b.length ≤ j
  · rw [onesTo_far b h]; exact Nat.le_refl _
  · obtain ⟨r, hr⟩ := onesTo_pre b (i := j) (k := b.length) (by omega)
    unfold ones
    rw [hr, List.length_append]; omega

set_option maxRecDepth 100000 in
set_option maxHeartbeats 6400000 in
theorem asSlice (o : O) (b : List Bool) (g C B : Nat) (w : World) (h : o.ok w) (hr : o.rep b) (hT : Tab w) (hC : (ones b).length = C) (hown : Rw g C [] w) (hm : o.m ≤ 1000)
    (hB : ∀ k, o.foot k → k < B) (hB0 : 0 < B) (hBw : B ≤ w.heap.size) (hat : B ≤ g) :
    Calls Tryd.prog 14 #[o.ptr, .slice (some ⟨g, 0, none⟩) C C] w fun e w' => e = .returned (.slice (some ⟨g, 0, none⟩) C C) ∧ RU w' (some ⟨g, 0, none⟩) C C (ones b) ∧ Above B w w' := by
  obtain ⟨bb, hbb, hp, hbl, hne, c0, c1, f0, f1, hcs, hfr, hbd1, hbd2⟩ := h.facts
  have hbbB : bb < B := hB bb (.inr (by rw [hbb]; rfl))
  have HSall : Hid (∀ i, Lt64 (o.ws.getD i 0)) := Lib.hid (fun i => h.fits.at i)
  have HR := Lib.hid hr
  have HT := Lib.hid hT
  have HCS := Lib.hid hcs
  have HEND : Hid (onesTo b (64 * o.m) = ones b) := Lib.hid (onesTo_far b hr.room)
  have HCC : Hid (∀ j, (onesTo b j).length ≤ C) := Lib.hid (fun j => by rw [← hC]; exact onesTo_len b j)
  have HC := Lib.hid hC
  have hCb : C ≤ 64000 := by have := hr.room; have := ones_le b; omega
  have HOWN := Lib.hid hown
  have HCB := Lib.hid c1
  clear h hr hT hcs hfr hown hB hC f0 f1 c0
  unfold O.ptr
  go_enter Tryd.func14, Tryd.ntmps14
  go_wp2_with fail
  go_loopw [5, 6, 7, 17] (fun s _ _ i wr => ∃ (k n : Nat), k ≤ o.m ∧ i = .int .i64 (k : Int) ∧ s = .int .i64 (n : Int) ∧ n ≤ C ∧ Hid ((onesTo b (64 * k)).length = n) ∧ Hid (Above B w wr ∧ Rw g C (onesTo b (64 * k)) wr)) (fun _ _ _ i _ => o.m - (intOf i).toNat)
  case atStart => exact ⟨0, 0, Nat.zero_le _, rfl, rfl, Nat.zero_le _, Lib.hid rfl, Lib.hid ⟨Only.refl _ _, HOWN.out⟩⟩
  case round =>
    obtain ⟨k, n, hk, rfl, rfl, hnC, HN, hrel⟩ := hrel
    clear HOWN
    by_cases hkm : k < o.m
    · have hkm' : (k : Int) < (o.m : Int) := by omega
      have x0 : wr.cell? ⟨bb, k, none⟩ = some (.int .u64 (o.ws.getD k 0 : Nat)) := (hrel.out.1.cell (p := ⟨bb, k, none⟩) hbl (by simp; omega)).trans (HCS.out k hkm)
      have HW0 := Lib.hid (LeftW.start HSall.out k)
      generalize o.ws.getD k 0 = x at x0 HW0
      have HB1 : Hid ((onesTo b (64 * k + 0)).length = n ∧ Above B w wr ∧ Rw g C (onesTo b (64 * k + 0)) wr) := Lib.hid ⟨HN.out, hrel.out⟩
      clear hrel HN
      go_wp2_with fail
      clear x0
      go_loopw [5, 7] (fun s y wr => ∃ (p x n : Nat), p ≤ 64 ∧ y = .int .u64 (x : Int) ∧ s = .int .i64 (n : Int) ∧ n ≤ C ∧ Hid (LeftW o.ws k p x) ∧ Hid ((onesTo b (64 * k + p)).length = n ∧ Above B w wr ∧ Rw g C (onesTo b (64 * k + p)) wr)) (fun _ y _ => (intOf y).toNat)
      case atStart => exact ⟨0, x, n, by omega, rfl, rfl, hnC, Lib.hid HW0.out, Lib.hid HB1.out⟩
      case round =>
        obtain ⟨p, x, n, hp64, rfl, rfl, hnC, HX, hrel⟩ := hrel
        clear HB1 HW0
        by_cases hx0 : x = 0
        · subst hx0
          have HF := Lib.hid (HX.out.fin HR.out)
          go_wp2_with fail
          go_roundw
          case rel => exact ⟨k + 1, n, by omega, by go_num, rfl, hnC, Lib.hid (by rw [HF.out]; exact hrel.out.1), Lib.hid (by rw [HF.out]; exact hrel.out.2)⟩
          case measure => simp [intOf]; omega
        · have hxb : ((x : Int) != 0) = true := by rw [bne_iff_ne]; omega
          have hxb2 : (!((x : Int) == 0)) = true := by simp; omega
          obtain ⟨t, ht, hlow⟩ := low_ex HX.out.1 hx0
          have HTZ : Hid (∀ wx, wx.heap = wr.heap → Calls Tryd.prog 19 #[.int .u64 (x : Int)] wx fun e w' => e = .returned (.int .i64 (t : Int)) ∧ wx = w') := Lib.hid (fun wx hx => tz64 x t wx HX.out.1 (by omega) hlow ht (fun i hi => by
            have := (HT.out.keep (by omega) hrel.out.2.1 (by simp; omega)) i hi
            rw [← this]; unfold World.cell?; rw [hx]))
          obtain ⟨hpt, hon, hleft⟩ := HX.out.step HR.out hlow ht
          have hn1 : n + 1 ≤ C := by
            have h1 := HCC.out (64 * k + (t + 1))
            rw [hon, List.length_append, hrel.out.1] at h1
            simpa using h1
          have HON := Lib.hid hon
          have HLF := Lib.hid hleft
          have hpa := pred_and HX.out.1 (by omega)
          have hdec : x &&& (x - 1) < x := Nat.lt_of_le_of_lt Nat.and_le_right (by omega)
          have HLT := Lib.hid HX.out.1
          have y1 := hrel.out.2.2.cell n (by omega)
          have y2 := hrel.out.2.2.free n
          have hnC' : (n : Int) < (C : Int) := by omega
          have HSTO : Hid (Above B w (wr.setCell ⟨g, n, none⟩ (.int .u64 ((k : Int) * 64 + (t : Int)))) ∧ Rw g C (onesTo b (64 * k + (t + 1))) (wr.setCell ⟨g, n, none⟩ (.int .u64 ((k : Int) * 64 + (t : Int))))) := Lib.hid (by
            refine ⟨hrel.out.2.1.setCell _ _ (fun _ => hat), ?_⟩
            have h1 := hrel.out.2.2.store hrel.out.1 (by omega) (64 * k + t)
            rw [hon, show ((k : Int) * 64 + (t : Int)) = ((64 * k + t : Nat) : Int) by omega]
            exact h1)
          have hln : (onesTo b (64 * k + (t + 1))).length = n + 1 := by rw [hon, List.length_append, hrel.out.1]; rfl
          have HLN := Lib.hid hln
          clear hlow hon hleft HX hln
          generalize x &&& (x - 1) = y at *
          generalize (onesTo b (64 * k + p) ++ List.replicate (C - (onesTo b (64 * k + p)).length) 0).getD n 0 = old at y1
          go_wp2_with (go_at_call 19; refine (HTZ.out _ (by exact rfl)).mono ?_; rintro e w' ⟨rfl, rfl⟩)
          go_roundw
          case rel => exact ⟨t + 1, y, n + 1, by omega, by go_num, by go_num, hn1, Lib.hid HLF.out, Lib.hid ⟨HLN.out, HSTO.out⟩⟩
          case measure => simp [intOf]; omega
    · obtain rfl : k = o.m := by omega
      have hnn : n = C := by rw [← HN.out, HEND.out, HC.out]
      subst hnn
      go_wp2_with fail
      go_ret
      exact ⟨by simp, by have := hrel.out.2.ru HN.out; rwa [HEND.out] at this, hrel.out.1⟩
end Go.Proofs.YtmadpemagfbmlaaDoor.bs

/-
  Bitsets: extendSet.
-/
import Derived.Test.YtgndpckcdageiaaBsNew
import Derived.Test.YtgndpckcdageiaaBsOps1
import Derived.WalkSpells
namespace Go.Proofs.Ytgndpckcdageiaa.bs
open Go.RowKit Go.Proofs.Ytgndpckcdageiaa.base Go.Proofs.Ytgndpckcdageiaa.heap Go.Proofs.Ytgndpckcdageiaa.bit
set_option linter.unusedVariables false

theorem make_words2 (k c : Nat) (hkc : k ≤ c) (hk : c ≤ 1099511627776) (w : World) : (Instr.makeSlice 56 (.int .i64 (k : Int)) (.int .i64 (c : Int))).run Try.prog w =
    .ok (.slice (some ⟨w.heap.size, 0, none⟩) k c) (w.alloc (.cells (zs c) 60)) := by
  obtain ⟨ht, i, z, hi, hz, hsize, hby, hzs⟩ := slWord
  have hz' : i.zero = some (.int .u64 0) := by
    have h : (Try.prog.info? 60).map (fun i => (i.zero, i.size, i.bytes)) = some (some (.int .u64 0), 1, 8) := by kernel_rfl
    rw [hi] at h
    simpa using (by simpa using h : i.zero = some (.int .u64 0) ∧ _).1
  have h := run_make (P := Try.prog) w 56 60 i (.int .u64 0) ht hi hz' .i64 .i64 (k : Int) (c : Int) (by omega) (by omega) (by rw [hby]; omega) (by omega)
  rw [hsize, Int.toNat_natCast, Int.toNat_natCast, Nat.mul_one] at h
  exact h

theorem capacity (w : World) : Calls Try.prog 47 #[] w fun e w' => e = .returned (.int .u64 18446744073709551615) ∧ w' = w := by
  go_enter Try.func47, Try.ntmps47
  go_wp2
  go_ret
  exact ⟨rfl, rfl⟩

/-- the bitset, with other words' row -/
def O.with (o : O) (n : Nat) (a : Option Addr) (m cap : Nat) (ws : List Nat) : O := ⟨o.p, n, a, m, cap, ws⟩
/-- room for one more bit than i -/
def Ext (o : O) (b : List Bool) (i : Nat) (w w' : World) : Prop :=
  ∃ o' : O, o'.p = o.p ∧ o'.ok w' ∧ o'.rep (grow b (i + 1)) ∧ o'.m = (i + 64) / 64 ∧ Only o.foot w w' ∧ ∀ k, o'.foot k → o.foot k ∨ w.heap.size ≤ k

theorem ext_rep {o o' : O} {b : List Bool} {i : Nat} (hr : o.rep b) (hn : o'.n = i + 1) (hm : o'.m = (i + 64) / 64) (hb : b.length ≤ i + 1) (hw : ∀ j, j < (i + 64) / 64 → o'.ws.getD j 0 = o.ws.getD j 0) (hl : o'.ws.length = o'.m) : o'.rep (grow b (i + 1)) := by
  have hlen : (grow b (i + 1)).length = i + 1 := by rw [grow_len]; omega
  refine ⟨by rw [hlen, hn], by rw [hlen, hm], fun j => ?_⟩
  rw [grow_get]
  by_cases hj : j / 64 < (i + 64) / 64
  · rw [← hr.bits j]
    unfold bit
    rw [hw _ hj]
  · have h1 : o'.ws.getD (j / 64) 0 = 0 := by simp [show o'.ws.length ≤ j / 64 by omega]
    unfold bit
    rw [h1, Nat.zero_testBit]
    have : b.length ≤ j := by omega
    simp [this]

theorem ext_fin {o : O} {b : List Bool} {i k g c : Nat} {w wr : World} {cur : Array Value} {ws' : List Nat} {x : Value} (h : o.ok w) (hr : o.rep b) (hk : (i + 64) / 64 = k) (hb : b.length ≤ i + 1)
    (hobj : wr.heap[o.p]? = some (.cells #[x, .slice (some ⟨g, 0, none⟩) k c] 58 (0, 0))) (hg : wr.heap[g]? = some (.cells cur 60 (0, 0))) (hne : g ≠ o.p) (hsz : cur.size = c) (hkc : k ≤ c) (hc : c ≤ maxLen)
    (htk : cur.toList.take k = U ws') (hl : ws'.length = k) (hw : ∀ j, j < k → ws'.getD j 0 = o.ws.getD j 0) (hok : Ok ws') (hO : Only o.foot w wr) (hfr : At o.a g ∨ w.heap.size ≤ g) :
    Ext o b i w (wr.setCell ⟨o.p, 0, none⟩ (.int .u64 ((i + 1 : Nat) : Int))) := by
  refine ⟨⟨o.p, i + 1, some ⟨g, 0, none⟩, k, c, ws'⟩, rfl, ⟨setCell_heap hobj 0 _, ?_, hl, hok, fun e => hne e, by simp⟩, ext_rep hr rfl hk.symm hb (fun j hj => hw j (by omega)) hl, hk.symm, hO.setCell _ _ (fun _ => .inl rfl), ?_⟩
  · have h1 : (wr.setCell ⟨o.p, 0, none⟩ (.int .u64 ((i + 1 : Nat) : Int))).heap[g]? = some (.cells cur 60 (0, 0)) := by rw [Below.heap_setCell _ _ _ _ hne]; exact hg
    have h2 := Own.of_block (size := 1) h1 k c hkc hc (by omega) (fun u hu => by rw [Nat.mul_one, htk] at hu; exact U_one _ u hu)
    rw [Nat.mul_one, htk] at h2
    exact h2
  · rintro j (rfl | hj)
    · exact .inl (.inl rfl)
    · rcases hfr with f | f
      · obtain rfl : g = j := hj
        exact .inl (.inr f)
      · obtain rfl : g = j := hj
        exact .inr f

/-- the words' row, further words of it made 0 -/
def ExtMid (o : O) (bb k j : Nat) (w wr : World) : Prop :=
  wr.heap[o.p]? = some (.cells #[.int .u64 (o.n : Int), .slice (some ⟨bb, 0, none⟩) k o.cap] 58 (0, 0)) ∧
  (∃ cur, wr.heap[bb]? = some (.cells cur 60 (0, 0)) ∧ cur.size = o.cap ∧ cur.toList.take (o.m + j) = U (o.ws ++ List.replicate j 0)) ∧ Only o.foot w wr
theorem ExtMid.start {o : O} {bb k : Nat} {w : World} (h : o.ok w) (ha : o.a = some ⟨bb, 0, none⟩) : ExtMid o bb k 0 w (w.setCell ⟨o.p, 1, none⟩ (.slice (some ⟨bb, 0, none⟩) k o.cap)) := by
  have hne : bb ≠ o.p := fun e => h.apart (by rw [ha, e]; exact rfl)
  refine ⟨setCell_heap h.obj 1 _, ?_, (Only.refl _ w).setCell _ _ (fun _ => .inl rfl)⟩
  rcases h.own.alt with ⟨hc, _⟩ | ⟨b', cur, hb', hb, hs, ht⟩
  · rw [ha] at hc; cases hc
  · rw [ha] at hb'
    cases hb'
    exact ⟨cur, by rw [Below.heap_setCell _ _ _ _ hne]; exact hb, by omega, by rw [Nat.mul_one] at ht; simpa using ht⟩
theorem ExtMid.step {o : O} {bb k j : Nat} {w wr : World} (h : ExtMid o bb k j w wr) (ha : o.a = some ⟨bb, 0, none⟩) (hne : bb ≠ o.p) (hl : o.ws.length = o.m) (hj : o.m + j < o.cap) : ExtMid o bb k (j + 1) w (wr.setCell ⟨bb, o.m + j, none⟩ (.int .u64 0)) := by
  obtain ⟨h1, ⟨cur, h2, h3, h4⟩, h5⟩ := h
  refine ⟨by rw [Below.heap_setCell _ _ _ _ (Ne.symm hne)]; exact h1, ⟨_, setCell_heap h2 _ _, by simpa using h3, ?_⟩, h5.setCell _ _ (fun _ => .inr (by rw [ha]; rfl))⟩
  rw [Array.toList_setIfInBounds]
  have h6 : ((cur.toList.set (o.m + j) (Value.int .u64 0)).take (o.m + (j + 1))) = cur.toList.take (o.m + j) ++ [.int .u64 0] := by
    rw [show o.m + (j + 1) = o.m + j + 1 from by omega, List.take_succ_eq_append_getElem (by simp; omega), List.take_set_of_le (by omega), List.getElem_set_self]
  rw [h6, h4, List.replicate_succ', ← List.append_assoc]
  simp [U]
theorem ExtMid.fin {o : O} {b : List Bool} {bb i j k : Nat} {w wr : World} (h : ExtMid o bb k j w wr) (hok : o.ok w) (ha : o.a = some ⟨bb, 0, none⟩) (hr : o.rep b) (hk : (i + 64) / 64 = k) (hb : b.length ≤ i + 1) (hkc : k ≤ o.cap) (hj : k ≤ o.m + j) :
    Ext o b i w (wr.setCell ⟨o.p, 0, none⟩ (.int .u64 ((i + 1 : Nat) : Int))) := by
  obtain ⟨h1, ⟨cur, h2, h3, h4⟩, h5⟩ := h
  have hl := hok.len
  have hne : bb ≠ o.p := fun e => hok.apart (by rw [ha, e]; exact rfl)
  have h6 : cur.toList.take k = U ((o.ws ++ List.replicate j 0).take k) := by
    have : cur.toList.take k = (cur.toList.take (o.m + j)).take k := by rw [List.take_take, Nat.min_eq_left hj]
    rw [this, h4]
    unfold U
    rw [List.map_take]
  refine ext_fin hok hr hk hb h1 h2 hne h3 hkc hok.own.max h6 (by rw [List.length_take, List.length_append, List.length_replicate, hl]; omega) (fun q hq => ?_) ?_ h5 (.inl (by rw [ha]; rfl))
  · simp only [List.getD_eq_getElem?_getD, List.getElem?_take, if_pos hq, List.getElem?_append]
    by_cases hq2 : q < o.ws.length
    · rw [if_pos hq2]
    · rw [if_neg hq2, List.getElem?_replicate, List.getElem?_eq_none (by omega)]
      split <;> rfl
  · intro x hx
    rcases List.mem_append.1 (List.mem_of_mem_take hx) with hx | hx
    · exact hok.fits x hx
    · rw [List.eq_of_mem_replicate hx]; exact lt64_zero

set_option maxRecDepth 100000 in
set_option maxHeartbeats 3200000 in
theorem extendSet (o : O) (b : List Bool) (i : Nat) (w : World) (h : o.ok w) (hr : o.rep b) (hi : i ≤ 1048576) (hb : b.length ≤ i + 1) :
    Calls Try.prog 38 #[o.ptr, .int .u64 (i : Int)] w fun e w' => e = .returned (.tuple #[]) ∧ Ext o b i w w' := by
  obtain ⟨bb, hbb, hp, hbl, hne, c0, c1, f0, f1, hcs, hfr, hbd1, hbd2⟩ := h.facts
  have hcmp : ∀ wx, (binOp .eql 56 (.slice (some ⟨bb, 0, none⟩) o.m o.cap) (.slice none 0 0)).run Try.prog wx = .ok (.bool false) wx := fun wx => Lib.run_eql_slice_nil _ _ _ _ _ _ _ _ Try.underlying56
  obtain ⟨M, hM⟩ : ∃ M : Int, M = 18446744073709551615 := ⟨_, rfl⟩
  have HCAP : Hid (∀ wx, Calls Try.prog 47 #[] wx fun e w' => e = .returned (.int .u64 M) ∧ wx = w') := Lib.hid (fun wx => by rw [hM]; exact (capacity wx).mono fun e w' ⟨he, hw⟩ => ⟨he, hw.symm⟩)
  have hcapI : (i : Int) < M := by omega
  clear hM
  obtain ⟨k, hk⟩ : ∃ k, (i + 64) / 64 = k := ⟨_, rfl⟩
  have HW : Hid (∀ wx, Calls Try.prog 42 #[.int .u64 ((i : Int) + 1)] wx fun e w' => e = .returned (.int .i64 (k : Int)) ∧ wx = w') := Lib.hid (fun wx => by
    have := wordsNeeded (i + 1) (by omega) wx
    rw [show (i + 1 + 63) / 64 = k from by omega] at this
    exact this.mono fun e w' ⟨he, hw⟩ => ⟨he, hw.symm⟩)
  have hk1 : k ≤ 20000 := by omega
  have hk0 : 0 < k := by omega
  have H := Lib.hid h
  have HR := Lib.hid hr
  have HKe := Lib.hid hk
  have HBB := Lib.hid hbb
  have HL := Lib.hid h.len
  clear hcs hfr h hr hk
  unfold O.ptr
  by_cases hroom : k ≤ o.cap
  · have hroom' : (k : Int) ≤ (o.cap : Int) := by omega
    by_cases hgrow : o.m < k
    · have hgrow' : (o.m : Int) < (k : Int) := by omega
      have hnc : ¬ o.cap = o.m := by omega
      have hmk : o.m ≤ k := by omega
      have hS := ExtMid.start (k := k) H.out hbb
      have HS := Lib.hid hS
      clear hS
      go_enter Try.func38, Try.ntmps38
      go_wp2_with (first | (go_at_call 47; (with_reducible refine (HCAP.out _).mono ?_); rintro e w1 ⟨rfl, rfl⟩) | (go_at_call 42; (with_reducible refine (HW.out _).mono ?_); rintro e w1 ⟨rfl, rfl⟩))
      go_loopw [7, 58] (fun _ x wr => ∃ j : Nat, j ≤ k - o.m ∧ x = .int .i64 (j : Int) ∧ ExtMid o bb k j w wr) (fun _ x _ => (k - o.m) - (intOf x).toNat)
      case atStart => exact ⟨0, Nat.zero_le _, rfl, HS.out⟩
      case round =>
        obtain ⟨j, hj, rfl, hmid⟩ := hrel
        clear c0 c1 f0 f1
        have HM := Lib.hid hmid
        obtain ⟨ho, ⟨cur, hcur, hsz, htk⟩, hO⟩ := hmid
        have e0 : wr.cell? ⟨o.p, 0, none⟩ = some (.int .u64 (o.n : Int)) := block_cell ho rfl
        have g0 : wr.frozen? ⟨o.p, 0, none⟩ = false := block_free ho
        by_cases hlt : j < k - o.m
        · have hlt' : (j : Int) < ((k - o.m : Nat) : Int) := by omega
          have hx : o.m + j < cur.size := by omega
          have e1 : wr.cell? ⟨bb, o.m + j, none⟩ = some cur[o.m + j] := block_cell hcur (by simp [hx])
          have g1 : wr.frozen? ⟨bb, o.m + j, none⟩ = false := block_free hcur
          generalize cur[o.m + j] = old at *
          clear ho hcur hsz htk hO hx
          go_wp2_with fail
          go_roundw
          case rel => exact ⟨j + 1, by omega, by go_num, HM.out.step HBB.out hne HL.out (by omega)⟩
          case measure => simp [intOf]; omega
        · have hge : ¬ (j : Int) < ((k - o.m : Nat) : Int) := by omega
          have HF := Lib.hid (HM.out.fin (b := b) (i := i) H.out HBB.out HR.out HKe.out hb hroom (by omega))
          clear ho hcur hsz htk hO
          go_wp2_with fail
          go_end0
          exact ⟨rfl, HF.out⟩
    · have hgrow' : ¬ (o.m : Int) < (k : Int) := by omega
      have HF := Lib.hid ((ExtMid.start (k := k) H.out hbb).fin (b := b) (i := i) H.out hbb HR.out HKe.out hb hroom (by omega))
      go_enter Try.func38, Try.ntmps38
      go_wp2_with (first | (go_at_call 47; (with_reducible refine (HCAP.out _).mono ?_); rintro e w1 ⟨rfl, rfl⟩) | (go_at_call 42; (with_reducible refine (HW.out _).mono ?_); rintro e w1 ⟨rfl, rfl⟩))
      go_end0
      exact ⟨rfl, HF.out⟩
  · have hroom' : ¬ (k : Int) ≤ (o.cap : Int) := by omega
    have hlt : (o.m : Int) < (k : Int) := by omega
    have hmul : (2 : Int) * (k : Int) = ((2 * k : Nat) : Int) := by omega
    have hmk : ∀ wx, (Instr.makeSlice 56 (.int .i64 (k : Int)) (.int .i64 (2 * (k : Int)))).run Try.prog wx = .ok (.slice (some ⟨wx.heap.size, 0, none⟩) k (2 * k)) (wx.alloc (.cells (zs (2 * k)) 60)) := fun wx => by
      rw [hmul]; exact make_words2 k (2 * k) (by omega) (by omega) wx
    clear hmul
    go_enter Try.func38, Try.ntmps38
    have HRd : Hid (∀ x, Rd 1 (w.alloc x) (some ⟨bb, 0, none⟩) o.m o.cap (U o.ws)) := Lib.hid (fun x => by
      have := H.out.own.rd
      rw [hbb] at this
      exact this.keep ((Only.refl (fun _ => False) w).alloc x) (fun _ _ => id))
    go_wp2_with (first | (go_at_call 47; (with_reducible refine (HCAP.out _).mono ?_); rintro e w1 ⟨rfl, rfl⟩) | (go_at_call 42; (with_reducible refine (HW.out _).mono ?_); rintro e w1 ⟨rfl, rfl⟩) | (refine wpList_copy o.m rfl _ _ _ _ rfl slWord rfl (heap_alloc_new' _ _ _ rfl) rfl (HRd.out _) (by omega) (by rw [zs_size]; omega) ?_))
    intro w2 hb2 hO2
    have hpw : o.p ≠ w.heap.size := by omega
    have hobj2 : w2.heap[o.p]? = some (.cells #[.int .u64 (o.n : Int), .slice o.a o.m o.cap] 58 (0, 0)) := hO2.obj (by rw [Below.heap_alloc _ _ _ hp]; exact H.out.obj) hpw
    have e0 : w2.cell? ⟨o.p, 0, none⟩ = some (.int .u64 (o.n : Int)) := block_cell hobj2 rfl
    have e1 : w2.cell? ⟨o.p, 1, none⟩ = some (.slice o.a o.m o.cap) := block_cell hobj2 rfl
    have g0 : w2.frozen? ⟨o.p, 0, none⟩ = false := block_free hobj2
    have g1 : w2.frozen? ⟨o.p, 1, none⟩ = false := block_free hobj2
    have HF : Hid (Ext o b i w ((w2.setCell ⟨o.p, 1, none⟩ (.slice (some ⟨w.heap.size, 0, none⟩) k (2 * k))).setCell ⟨o.p, 0, none⟩ (.int .u64 ((i + 1 : Nat) : Int)))) := Lib.hid (by
      have hO3 : Only o.foot w w2 := ((Only.refl o.foot w).alloc _).trans hO2 (fun j hj e => by omega)
      have hl := HL.out
      refine ext_fin (ws' := o.ws ++ List.replicate (k - o.m) 0) H.out HR.out HKe.out hb (setCell_heap hobj2 1 _) (by rw [Below.heap_setCell _ _ _ _ (Ne.symm hpw)]; exact hb2) (Ne.symm hpw) ?_ (by omega) (by unfold maxLen; omega) ?_ (by rw [List.length_append, List.length_replicate, hl]; omega) (fun q hq => ?_) ?_ (hO3.setCell _ _ (fun _ => .inl rfl)) (.inr (Nat.le_refl _))
      · simp [U_len, hl, zs_size]; omega
      · have e1 : (U o.ws).take o.m = U o.ws := List.take_of_length_le (by rw [U_len, hl]; omega)
        have e2 : (zs (2 * k)).toList.drop o.m = U (List.replicate (2 * k - o.m) 0) := by rw [zs_list]; unfold U; rw [← List.map_drop, List.drop_replicate]
        simp only [e1, e2, List.toList_toArray, List.take_zero, List.nil_append, Nat.zero_add]
        rw [U_app]
        unfold U
        rw [← List.map_take, List.take_append, List.take_of_length_le (by omega), List.take_replicate, hl, Nat.min_eq_left (by omega)]
      · simp only [List.getD_eq_getElem?_getD, List.getElem?_append]
        by_cases hq2 : q < o.ws.length
        · rw [if_pos hq2]
        · rw [if_neg hq2, List.getElem?_replicate, List.getElem?_eq_none (by omega)]
          split <;> rfl
      · intro x hx
        rcases List.mem_append.1 hx with hx | hx
        · exact H.out.fits x hx
        · rw [List.eq_of_mem_replicate hx]; exact lt64_zero)
    clear hb2 hO2 hobj2 hmk
    go_wp2_with fail
    go_end0
    exact ⟨rfl, HF.out⟩
end Go.Proofs.Ytgndpckcdageiaa.bs

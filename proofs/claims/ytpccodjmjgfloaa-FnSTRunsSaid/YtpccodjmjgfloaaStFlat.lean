/-
  The set's Flatten; anys of the thin package.
-/
import Derived.Test.YtpccodjmjgfloaaStSet
namespace Go.Proofs.Ytpccodjmjgfloaa.st
open Go.RowKit Go.Proofs.Ytpccodjmjgfloaa.base Go.Proofs.Ytpccodjmjgfloaa.heap Go.Proofs.Ytpccodjmjgfloaa.rows Go.Proofs.Ytpccodjmjgfloaa.mapi
set_option linter.unusedVariables false

theorem mk_anys (c : Nat) (hc : c ≤ 1000000) (w : World) : (Instr.makeSlice 50 (.int .i64 0) (.int .i64 (c : Int))).run Try.prog w =
    .ok (.slice (some ⟨w.heap.size, 0, none⟩) 0 c) (w.alloc (.cells (madeCells (Value.nilIface).cells c) 20)) := by
  obtain ⟨ht, i, z, hi, hz, hs, hb, hzs⟩ := slA
  have hz' : i.zero = some .nilIface := by
    have h : (Try.prog.info? 20).map (·.zero) = some (some .nilIface) := by kernel_rfl
    rw [hi] at h
    simpa using h
  have h := run_make (P := Try.prog) w 50 20 i .nilIface ht hi hz' .i64 .i64 0 (c : Int) (by omega) (by omega) (by rw [hb]; omega) (by omega)
  rw [hs, Nat.mul_one] at h
  exact h

/-- what Flatten hands back -/
def Flat (o : O) (w : World) (ks : List Int) (fl : Option (List Int)) (e : Ending) (w' : World) : Prop :=
  ∃ (o' : O) (F : List Int), e = .returned (.slice o'.fa o'.fn o'.fc) ∧ o'.p = o.p ∧ o'.ok w' ks (some F) ∧ (fl = none → F.Perm ks) ∧ (∀ F0, fl = some F0 → F = F0) ∧ Only o.foot w w' ∧ ∀ k, o'.foot k → o.foot k ∨ w.heap.size ≤ k

set_option maxHeartbeats 800000 in
theorem flatten1 (o : O) (ks F : List Int) (w : World) (hok : o.ok w ks (some F)) :
    Calls Try.prog 21 #[o.ptr] w fun e w' => e = .returned (.slice o.fa o.fn o.fc) ∧ w = w' := by
  have HB := Lib.hid hok.obj
  obtain ⟨ha, hown⟩ := hok.flat
  clear hok hown
  obtain ⟨p, mb, fa, fn, fc⟩ := o
  simp only [O.ptr, O.cells] at *
  obtain ⟨ad, rfl⟩ : ∃ ad, fa = some ad := Option.ne_none_iff_exists'.1 ha
  have hcmp : ∀ wx, (binOp .neq 50 (.slice (some ad) fn fc) (.slice none 0 0)).run Try.prog wx = .ok (.bool true) wx := fun wx => run_neq_slice_nil_any _ _ _ _ _ _ _ _ Try.underlying50
  have c1 : w.cell? ⟨p, 1, none⟩ = some (.slice (some ad) fn fc) := block_cell HB.out rfl
  go_enter Try.func21, Try.ntmps21
  go_wp2_with fail
  go_ret
  exact ⟨rfl, rfl⟩

theorem perm_step {F left ks : List Int} {x : Int} (hx : x ∈ left) (hn : left.Nodup) (h : (F ++ left).Perm ks) : ((F ++ [x]) ++ left.filter (fun k => !(k == x))).Perm ks := by
  refine List.Perm.trans ?_ h
  rw [List.append_assoc]
  refine List.Perm.append_left F ?_
  have := List.perm_cons_erase hx
  rw [hn.erase_eq_filter] at this
  exact this.symm

set_option maxRecDepth 100000 in
set_option maxHeartbeats 3200000 in
theorem flatten0 (o : O) (ks : List Int) (w : World) (hok : o.ok w ks none) (hn : ks.length ≤ 100000) (hnd : ks.Nodup) :
    Calls Try.prog 21 #[o.ptr] w (Flat o w ks none) := by
  have HB := Lib.hid hok.obj
  have HM := Lib.hid hok.map
  have hne := hok.ne
  obtain ⟨ha, hfn, hfc⟩ := hok.flat
  have HND := Lib.hid hnd
  clear hok hnd
  obtain ⟨p, mb, fa, fn, fc⟩ := o
  simp only [O.ptr, O.cells] at *
  subst ha hfn hfc
  have hcmp : ∀ wx, (binOp .neq 50 (.slice none 0 0) (.slice none 0 0)).run Try.prog wx = .ok (.bool false) wx := fun wx => run_neq_slice_nil_any _ _ _ _ _ _ _ _ Try.underlying50
  have c0 : w.cell? ⟨p, 0, none⟩ = some (.map (some mb)) := block_cell HB.out rfl
  have c1 : w.cell? ⟨p, 1, none⟩ = some (.slice none 0 0) := block_cell HB.out rfl
  obtain ⟨N, hN⟩ : ∃ N, ks.length = N := ⟨_, rfl⟩
  rw [hN] at hn
  have HN := Lib.hid hN
  clear hN
  have hp := lt_of_heap HB.out
  obtain ⟨w1, hw1⟩ : ∃ w1, w1 = w.alloc (.cells (madeCells (Value.nilIface).cells N) 20) := ⟨_, rfl⟩
  have hmk : (Instr.makeSlice 50 (.int .i64 0) (.int .i64 (N : Int))).run Try.prog w = .ok (.slice (some ⟨w.heap.size, 0, none⟩) 0 N) w1 := by rw [hw1]; exact mk_anys N (by omega) w
  have HS1 : Hid (Same w w1) := Lib.hid (by rw [hw1]; exact (Only.refl _ w).alloc _)
  have HB1 : Hid (w1.heap[p]? = some (.cells #[.map (some mb), .slice none 0 0] 70 (0, 0))) := Lib.hid (heap_still HS1.out HB.out)
  have HSZ1 : Hid (w1.heap.size = w.heap.size + 1) := Lib.hid (by rw [hw1]; simp)
  have HF1 : Hid (OL 20 ai w1 (some ⟨w.heap.size, 0, none⟩) 0 N []) := Lib.hid ⟨by
    rw [hw1]
    have := Own.made 20 1 w (madeCells (Value.nilIface).cells N) 0 N (Nat.zero_le _) (by unfold maxLen; omega) (by simp [madeCells]) (by simp)
    simpa using this, rfl⟩
  have f1 : w1.frozen? ⟨p, 1, none⟩ = false := block_free HB1.out
  have d1 : w1.cell? ⟨p, 1, none⟩ = some (.slice none 0 0) := block_cell HB1.out rfl
  have d0 : w1.cell? ⟨p, 0, none⟩ = some (.map (some mb)) := block_cell HB1.out rfl
  clear hw1
  obtain ⟨w2, hw2⟩ : ∃ w2, w2 = w1.setCell ⟨p, 1, none⟩ (.slice (some ⟨w.heap.size, 0, none⟩) 0 N) := ⟨_, rfl⟩
  have HO2 : Hid (Only (fun k => k = p) w w2) := Lib.hid (by rw [hw2]; exact (HS1.out.mono (fun _ _ f => f.elim)).setCell _ _ (fun _ => rfl))
  have HO12 : Hid (Only (fun k => k = p) w1 w2) := Lib.hid (by rw [hw2]; exact (Only.refl _ _).setCell _ _ (fun _ => rfl))
  have HB2 : Hid (w2.heap[p]? = some (.cells #[.map (some mb), .slice (some ⟨w.heap.size, 0, none⟩) 0 N] 70 (0, 0))) := Lib.hid (by rw [hw2]; exact setCell_heap HB1.out 1 _)
  have HSZ2 : Hid (w2.heap.size = w.heap.size + 1) := Lib.hid (by rw [hw2, ← HSZ1.out]; simp [World.setCell])
  have HF2 : Hid (OL 20 ai w2 (some ⟨w.heap.size, 0, none⟩) 0 N []) := Lib.hid (HF1.out.keep HO12.out (fun k hk e => by have hk' : w.heap.size = k := hk; omega))
  have HM2 : Hid (MapIs 3 w2 mb (ul ks)) := Lib.hid (HM.out.of_heap (HO2.out.block _ HM.out.lt (fun e => hne e.symm)))
  have HMS : Hid (MapIs 3 (w1.setCell ⟨p, 1, none⟩ (.slice (some ⟨w.heap.size, 0, none⟩) 0 N)) mb (ul ks)) := Lib.hid (by rw [← hw2]; exact HM2.out)
  go_enter Try.func21, Try.ntmps21
  go_wp2_with (first | (at_len; refine wpList_lenI rfl _ TM rfl Try.underlying68 rfl HM.out N (by rw [ul_len]; exact HN.out) ?_) | (at_range; refine wpList_rangeI rfl _ TM rfl Try.underlying68 rfl HMS.out ?_; intro w3 hr3 hg3 hs3))
  rw [← hw2] at hr3 hg3 hs3
  obtain ⟨r, hr⟩ : ∃ r, w2.heap.size = r := ⟨_, rfl⟩
  rw [hr] at hr3
  rw [show (w1.setCell ⟨p, 1, none⟩ (.slice (some ⟨w.heap.size, 0, none⟩) 0 N)).heap.size = r by rw [← hw2]; exact hr]
  rw [ul_keys] at hr3
  have HR3 := Lib.hid hr3
  have HO3 : Hid (Only (fun k => k = p) w w3) := Lib.hid (HO2.out.grown hg3 (fun _ _ e => by cases e))
  have HS23 : Hid (Same w2 w3) := Lib.hid ((Only.refl _ w2).grown hg3 (fun _ _ e => by cases e))
  have hrr : w.heap.size < r := by have := HSZ2.out; omega
  have hrm : r ≠ mb := hr3.ne
  have hmlt := HM.out.lt
  clear hr3 hg3 hs3 hr hw2 c0 c1 d0 d1 f1 hmk HMS
  go_frame
  go_loopw [3] (fun _ wr => ∃ (F left : List Int) (fa : Option Addr) (fn fc : Nat), fa ≠ none ∧ fn ≤ N ∧ wr.heap[p]? = some (.cells #[.map (some mb), .slice fa fn fc] 70 (0, 0)) ∧ OL 20 ai wr fa fn fc F ∧ RangeI 3 wr mb r (ul ks) left ∧ (F ++ left).Perm ks ∧ left.Nodup ∧ Only (fun k => k = p) w wr ∧ ∀ k, At fa k → w.heap.size ≤ k ∧ k ≠ r) (fun _ wr => wr.rangeLeft mb r)
  case atStart => exact ⟨[], ks, _, 0, N, by simp, Nat.zero_le _, heap_still HS23.out HB2.out, HF2.out.still HS23.out, HR3.out, List.Perm.refl _, HND.out, HO3.out, fun k hk => by have hk' : w.heap.size = k := hk; omega⟩
  case round =>
    obtain ⟨F, left, fa, fn, fc, hfa, hfn, hB, hF, hR, hP, hL, hO, hA⟩ := hrel
    have HB := Lib.hid hB
    have HF := Lib.hid hF
    have HR := Lib.hid hR
    have HP := Lib.hid hP
    have HL := Lib.hid hL
    have HO := Lib.hid hO
    have HA := Lib.hid hA
    have hbd := hF.bound
    have hlen : F.length = fn := hF.2
    have hlp : F.length + left.length = N := by have := hP.length_eq; rw [List.length_append, HN.out] at this; exact this
    have HLT := Lib.hid hF.1.lt
    have HLE := Lib.hid hR.left_eq
    have hprl := hR.lt
    clear hB hF hR hP hL hO hA
    go_wp2_with (at_next; refine wpList_nextI rfl _ rfl rfl HR.out ?_ ?_)
    · intro hleft
      subst hleft
      have HP' : Hid (F.Perm ks) := Lib.hid (by have := HP.out; rwa [List.append_nil] at this)
      have c1 : wr.cell? ⟨p, 1, none⟩ = some (.slice fa fn fc) := block_cell HB.out rfl
      go_wp2_with fail
      go_ret
      exact ⟨⟨p, mb, fa, fn, fc⟩, F, rfl, rfl, ⟨HB.out, HR.out.map, hne, fun k hk => ⟨by have := (HA.out k hk).1; show k ≠ p; omega, by have := (HA.out k hk).1; show k ≠ mb; omega⟩, ⟨hfa, HF.out⟩⟩, fun _ => HP'.out, fun F0 h => (nomatch h), HO.out.mono (fun k _ e => .inl e), fun k hk => by
        rcases hk with hk | hk | hk
        · exact .inl (.inl hk)
        · exact .inl (.inr (.inl hk))
        · exact .inr (HA.out k hk).1⟩
    · intro x v w4 hx hpx hR4 hg4 hs4 hen
      have hlx : 0 < left.length := List.length_pos_of_mem hx
      have HX := Lib.hid hx
      have HR4 := Lib.hid hR4
      have HO4 : Hid (Only (fun k => k = r) wr w4) := Lib.hid ((Only.refl _ wr).grown hg4 (fun _ _ e => by cases e; rfl))
      have hpr : p ≠ r := by omega
      have HB4 : Hid (w4.heap[p]? = some (.cells #[.map (some mb), .slice fa fn fc] 70 (0, 0))) := Lib.hid (HO4.out.obj HB.out hpr)
      have HF4 : Hid (OL 20 ai w4 fa fn fc F) := Lib.hid (HF.out.keep HO4.out (fun k hk e => (HA.out k hk).2 e))
      have c1 : w4.cell? ⟨p, 1, none⟩ = some (.slice fa fn fc) := block_cell HB4.out rfl
      have hp4 := lt_of_heap HB4.out
      have HN4 : Hid (w4.heap.size = wr.heap.size) := Lib.hid hs4
      clear hx hpx hR4 hg4 hs4
      go_wp2_with (at_builtin; refine wpList_append (fn + 1) (F.map ai ++ [ai x]) rfl _ _ _ _ rfl slA rfl (HF4.out.1.keep (S := fun j => j = w4.heap.size) (by repeat (first | exact Only.refl _ _ | apply Only.alloc | refine Only.setCell ?_ _ _ (fun _ => rfl))) (fun j hj e => by have := HF4.out.1.lt j hj; omega)) rfl (Src.row (size := 1) (cs := #[ai x]) (t := 20) (fr := (0, 0)) Try.underlying50 (heap_alloc_new' _ _ _ (by simp)) 1 1 rfl (by simp [Value.oneCell'])) rfl rfl (by unfold maxLen; omega) (by omega) ?_)
      intro fa' fc' w5 hG
      have HG : Hid (OL 20 ai w5 fa' (fn + 1) fc' (F ++ [x])) := Lib.hid ⟨by have := hG.own; rwa [List.map_append], by rw [List.length_append, HF.out.2]; rfl⟩
      have hOa : Only (fun k => At fa k) w4 w5 := Only.trans (S := At fa) (T := At fa) ((Only.refl (At fa) w4).alloc _) hG.only (fun j hj h => h)
      have hbp : w5.heap[p]? = some (.cells #[.map (some mb), .slice fa fn fc] 70 (0, 0)) := hOa.obj HB4.out (fun h => by have := (HA.out p h).1; omega)
      have HB5 := Lib.hid hbp
      have HFR5 : Hid (∀ k, At fa' k → w.heap.size ≤ k ∧ k ≠ r) := Lib.hid (fun j hj => by
        rcases hG.fresh j hj with h | h
        · exact HA.out j h
        · have := HN4.out; simp at h; have := HO.out.size; omega)
      have HNN : Hid (fa' ≠ none) := Lib.hid (fun e => by have := (hG.nil e).2; omega)
      have HO5 : Hid (Only (fun k => k = p) w w5) := Lib.hid (Only.trans (Only.trans HO.out HO4.out (fun j hj e => by omega)) hOa (fun j hj h => by have := (HA.out j h).1; omega))
      have HO45 := Lib.hid hOa
      have c2 : w5.cell? ⟨p, 1, none⟩ = some (.slice fa fn fc) := block_cell hbp rfl
      have f2 : w5.frozen? ⟨p, 1, none⟩ = false := block_free hbp
      have HL2 := Lib.hid (HLE.out)
      clear hG hOa hbp
      go_wp2_with fail
      obtain ⟨w6, hw6⟩ : ∃ w6, w6 = w5.setCell ⟨p, 1, none⟩ (.slice fa' (fn + 1) fc') := ⟨_, rfl⟩
      rw [← hw6]
      have HO56 : Hid (Only (fun k => k = p) w5 w6) := Lib.hid (by rw [hw6]; exact (Only.refl _ _).setCell _ _ (fun _ => rfl))
      have HB6 : Hid (w6.heap[p]? = some (.cells #[.map (some mb), .slice fa' (fn + 1) fc'] 70 (0, 0))) := Lib.hid (by rw [hw6]; exact setCell_heap HB5.out 1 _)
      have HR6 : Hid (RangeI 3 w6 mb r (ul ks) (left.filter (fun k => !(k == x)))) := Lib.hid (by
        have hmr : mb < w4.heap.size := HR4.out.map.lt
        have hrr4 := HR4.out.lt
        refine HR4.out.of_heap ?_ ?_
        · rw [HO56.out.block mb (by have := HO45.out.size; omega) (fun e => hne e.symm), HO45.out.block mb hmr (fun h => by have := (HA.out mb h).1; omega)]
        · rw [HO56.out.block r (by have := HO45.out.size; omega) (fun e => hpr e.symm), HO45.out.block r hrr4 (fun h => (HA.out r h).2 rfl)])
      clear hw6
      go_roundw
      case rel => exact ⟨F ++ [x], left.filter (fun k => !(k == x)), fa', fn + 1, fc', HNN.out, by omega, HB6.out, HG.out.keep HO56.out (fun k hk e => by have := (HFR5.out k hk).1; omega), HR6.out, perm_step HX.out HL.out HP.out, HL.out.filter _, Only.trans HO5.out HO56.out (fun _ _ e => e), HFR5.out⟩
      case measure =>
        rw [HR6.out.left_eq, HLE.out]
        have h1 := List.perm_cons_erase HX.out
        rw [HL.out.erase_eq_filter] at h1
        have h2 := h1.length_eq
        rw [List.length_cons] at h2
        have h3 : (left.filter (fun k => !(k == x))).length = (left.filter (fun k => k != x)).length := rfl
        omega

/-- Flatten -/
theorem flatten (o : O) (ks : List Int) (fl : Option (List Int)) (w : World) (hok : o.ok w ks fl) (hn : ks.length ≤ 100000) (hnd : ks.Nodup) :
    Calls Try.prog 21 #[o.ptr] w (Flat o w ks fl) := by
  cases fl with
  | none => exact flatten0 o ks w hok hn hnd
  | some F =>
    refine (flatten1 o ks F w hok).mono ?_
    rintro e w' ⟨he, hw⟩
    subst hw
    exact ⟨o, F, he, rfl, hok, (fun h => nomatch h), fun F0 h => by cases h; rfl, Only.refl _ _, fun k hk => .inl hk⟩

set_option maxRecDepth 100000 in
set_option maxHeartbeats 1600000 in
theorem anys (a : Option Addr) (n cap : Nat) (l : List Int) (w : World) (h : RL iv w a n cap l) (hn : n ≤ 1000000) :
    Calls Try.prog 15 #[.slice a n cap] w fun e w' => ∃ a' c', e = .returned (.slice a' n c') ∧ RL ai w' a' n c' l ∧ Same w w' ∧ ∀ k, At a' k → w.heap.size ≤ k := by
  have hbd := h.bound
  have HR := Lib.hid h
  clear h
  go_enter Try.func15, Try.ntmps15
  go_wp2_with fail
  go_loopw [3, 5, 8] (fun out _ i wr => ∃ (k : Nat) (oa : Option Addr) (oc : Nat), k ≤ n ∧ i = .int .i64 (k : Int) ∧ out = .slice oa k oc ∧ OL 20 ai wr oa k oc (l.take k) ∧ Same w wr ∧ ∀ j, At oa j → w.heap.size ≤ j) (fun _ _ i _ => n - (intOf i).toNat)
  case atStart => exact ⟨0, none, 0, Nat.zero_le _, rfl, rfl, OL.nil _ _ _, Only.refl _ _, fun j hj => hj.elim⟩
  case round =>
    obtain ⟨k, oa, oc, hk, rfl, rfl, hown, hO, hfr⟩ := hrel
    have hbo := hown.bound
    have HOWN := Lib.hid hown
    have HO := Lib.hid hO
    have HFR := Lib.hid hfr
    clear hown hO hfr
    by_cases hlt : k < n
    · have hlt' : (k : Int) < (n : Int) := by omega
      obtain ⟨b, off, rfl, hb, hc⟩ := (HR.out.still HO.out).at (by omega)
      obtain ⟨x, hx⟩ := HR.out.get hlt
      have c0 := hc k x hx
      have HX := Lib.hid hx
      clear hc hx
      go_wp2_with (at_builtin; refine wpList_append (k + 1) ((l.take k).map ai ++ [ai x]) rfl _ _ _ _ rfl slA rfl (HOWN.out.1.keep (S := fun j => j = wr.heap.size) (by repeat (first | exact Only.refl _ _ | apply Only.alloc | refine Only.setCell ?_ _ _ (fun _ => rfl))) (fun j hj e => by have := HOWN.out.1.lt j hj; omega)) rfl (Src.row (size := 1) (cs := #[ai x]) (t := 20) (fr := (0, 0)) Try.underlying50 (heap_alloc_new' _ _ _ (by simp)) 1 1 rfl (by simp [Value.oneCell'])) rfl rfl (by unfold maxLen; omega) (by omega) ?_)
      intro a'' cap'' w3 hG
      have HG : Hid (OL 20 ai w3 a'' (k + 1) cap'' (l.take (k + 1))) := Lib.hid ⟨by have := hG.own; rw [take_snoc l k x HX.out, List.map_append, List.map_take]; exact this, by rw [List.length_take, HR.out.2]; omega⟩
      have HO3 : Hid (Same w w3) := Lib.hid (Only.trans (S := fun _ => False) (T := At oa) (by repeat (first | exact HO.out | apply Only.alloc)) hG.only (fun j hj h => by have := HFR.out j h; omega))
      have HF3 : Hid (∀ j, At a'' j → w.heap.size ≤ j) := Lib.hid (fun j hj => by
        rcases hG.fresh j hj with h | h
        · exact HFR.out j h
        · have := HO.out.size; simp at h; omega)
      clear hG
      go_wp2_with fail
      go_roundw
      case rel => exact ⟨k + 1, a'', cap'', by omega, by go_num, rfl, HG.out, HO3.out, HF3.out⟩
      case measure => simp [intOf]; omega
    · obtain rfl : k = n := by omega
      rw [List.take_of_length_le (by rw [HR.out.2]; exact Nat.le_refl _)] at HOWN
      go_wp2_with fail
      go_ret
      exact ⟨oa, oc, rfl, HOWN.out.rl, HO.out, HFR.out⟩
end Go.Proofs.Ytpccodjmjgfloaa.st

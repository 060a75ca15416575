/-
  Entries.insert.
-/
import Derived.Test.YtcjifjfcjimefaaDoorZYSearch
import Derived.Test.YtcjifjfcjimefaaDoorZYRow
import Derived.Test.YtcjifjfcjimefaaDoorMB
import Derived.StillTailTactics
namespace Go.Proofs.YtcjifjfcjimefaaDoor.yf
open Go.RowKit Go.Proofs.YtcjifjfcjimefaaDoor.base Go.Proofs.YtcjifjfcjimefaaDoor.heap Go.Proofs.YtcjifjfcjimefaaDoor.rows
open Go.Proofs.YtcjifjfcjimefaaDoor.xf hiding Own
set_option linter.unusedVariables false

theorem slEn : SliceOf Tryd.prog 68 73 1 16 := SliceOf.mk (z := .nilIface) Tryd.underlying68 (by kernel_rfl) rfl
/-- the row behind a field has turned -/
def RowE (p o : Nat) (cs : Array Value) (t : TypeId) (a : Option Addr) (E : List It) (v : Value) (w : World) (en : Ending) (w' : World) : Prop :=
  ∃ a' c', en = .returned v ∧ w'.heap[p]? = some (.cells (cs.setIfInBounds o (.slice a' E.length c')) t (0, 0)) ∧ OL 73 entv w' a' E.length c' E ∧ Only (fun k => k = p ∨ At a k) w w' ∧ (∀ k, At a' k → At a k ∨ w.heap.size ≤ k)
section
variable {w : World} {p o n c : Nat} {cs : Array Value} {t : TypeId} {a : Option Addr} {E : List It}
/-- said of the start: the entry's place -/
theorem put_at (E : List It) (y : It) (i : Nat) (hi : pos E y.1 = i) : put E y.1 y.2 = E.take i ++ y :: E.drop (if has E y.1 then i + 1 else i) := by rw [put_pos, hi]
set_option maxRecDepth 100000 in
set_option maxHeartbeats 3200000 in
theorem insertE (hp : w.heap[p]? = some (.cells cs t (0, 0))) (ho : cs[o]? = some (.slice a n c)) (h : OL 73 entv w a n c E) (hs : Asc E) (hna : ¬ At a p) (y : It) (hn : n ≤ 1000) :
    Calls Tryd.prog 58 #[.pointer (some ⟨p, o, none⟩), .iface 66 (.agg #[.int .u64 (y.1 : Int), .int .i64 y.2])] w (RowE p o cs t a (put E y.1 y.2) (ansE (fnd E y.1)) w) := by
  have HSE : Hid (∀ wx, Same w wx → Calls Tryd.prog 77 #[.slice a n c, .int .u64 (y.1 : Int)] wx (SayP (.int .i64 ((pos E y.1 : Nat) : Int)) wx)) := Lib.hid (fun wx hx => searchE (h.rl.still hx) hs y.1 (by omega))
  have HK : Hid (∀ (k : Nat) (v : Int) (wx : World), Calls Tryd.prog 111 #[.agg #[.int .u64 (k : Int), .int .i64 v]] wx fun en w' => en = .returned (.int .u64 (k : Int)) ∧ Same wx w') := Lib.hid (fun k v wx => entKey k v wx)
  have HP := Lib.hid (And.intro hp (And.intro ho (And.intro h hna)))
  have hpl := lt_of_heap hp
  have hbd := h.bound
  have hln := h.2
  have hle := pos_le E y.1
  have hpa := put_at E y
  have hfh := fnd_has hs y.1
  obtain ⟨i, hi⟩ : ∃ i, pos E y.1 = i := ⟨_, rfl⟩
  have hpi := hpa i hi
  have HI := Lib.hid hi
  have m1 := methodE y.1 y.2
  have q1 := nilE y.1 y.2
  have HD : Hid (∀ wx, Same w wx → wx.cell? ⟨p, o, none⟩ = some (.slice a n c) ∧ p < wx.heap.size ∧ ∀ j, wx.frozen? ⟨p, j, none⟩ = false) := Lib.hid (fun wx hx => by
    have h1 := hx.obj hp id
    exact ⟨block_cell h1 ho, lt_of_heap h1, fun j => block_free h1⟩)
  rw [hi] at HSE hle hfh
  obtain ⟨c0, l0, f0⟩ := HD.out w (Only.refl _ _)
  have HPI := Lib.hid hpi
  have HFH := Lib.hid hfh
  have HHS : Hid (has E y.1 = match E[i]? with | some z => z.1 == y.1 | none => false) := Lib.hid (by unfold has; rw [hi]; cases E[i]? <;> rfl)
  clear hp ho h hs hna hpa hpi hfh hi hpl
  go_enter Tryd.func58, Tryd.ntmps58
  go_upto_region 1 with fail
  go_cut [5] (fun u wx => u = .int .i64 (i : Int) ∧ Hid (Same w wx))
  case first =>
    go_region_law (first
      | ((with_reducible show (ite _ (Oper.wp _ _ _ (World.drew w) _ _) _)); (go_simp); go_at_call 111; refine (HK.out _ _ _).mono ?_; rintro e wk ⟨rfl, hsk⟩; have HSK : Hid (Same w wk) := Lib.hid ((Only.refl (fun _ => False) w).drew.trans hsk (fun _ _ h => h)); obtain ⟨ck, lk, fk⟩ := HD.out wk HSK.out; clear hsk)
      | ((with_reducible show (ite _ (Oper.wp _ _ _ wk _ _) _)); (go_simp); go_at_call 77; refine (HSE.out _ HSK.out).mono ?_; rintro e wj ⟨rfl, hsj⟩; have HSJ : Hid (Same w wj) := Lib.hid (HSK.out.trans hsj); obtain ⟨cj, lj, fj⟩ := HD.out wj HSJ.out; clear hsj)
      | fail)
    all_goals
      go_wp2_with fail
      go_meet
      exact ⟨rfl, HSJ⟩
  case rest =>
  obtain ⟨rfl, HS1⟩ := hcut
  obtain ⟨w1, hw1⟩ : ∃ w1, w1 = wc := ⟨_, rfl⟩
  rw [← hw1] at HS1 ⊢
  clear hw1 c0 l0 f0 HSE
  obtain ⟨c1, l1, f1⟩ := HD.out w1 HS1.out
  by_cases hin : i = n
  · subst hin
    have hnone : E[i]? = none := List.getElem?_eq_none (by omega)
    have HF : Hid (fnd E y.1 = none ∧ put E y.1 y.2 = E ++ [y]) := Lib.hid (by
      have h1 := HHS.out
      rw [hnone] at h1
      have h2 := HFH.out
      have h3 := HPI.out
      rw [h1] at h2 h3
      refine ⟨by simpa using h2, ?_⟩
      rw [h3]
      simp [List.take_of_length_le (show E.length ≤ i by omega), List.drop_of_length_le (show E.length ≤ i by omega)])
    go_wp2_with (at_builtin; refine wpList_append (i + 1) (E.map entv ++ [.iface 66 (.agg #[.int .u64 (y.1 : Int), .int .i64 y.2])]) rfl _ _ _ _ rfl slEn rfl ((HP.out.2.2.1.1.keep HS1.out (fun _ _ => id)).keep (S := fun _ => False) (by repeat (first | exact Only.refl _ _ | apply Only.alloc | apply Only.drew)) (fun _ _ => id)) rfl (Src.row (size := 1) (cs := #[.iface 66 (.agg #[.int .u64 (y.1 : Int), .int .i64 y.2])]) (t := 73) (fr := (0, 0)) Tryd.underlying68 (by exact heap_alloc_new _ _) 1 1 rfl (by intro u hu; simp at hu; subst hu; rfl)) rfl rfl (by unfold maxLen; omega) (by omega) ?_)
    intro a2 c2 w2 hG
    have hO1 : Only (At a) w w2 := (HS1.out.mono (fun _ _ f => f.elim)).trans ((((Only.refl (At a) w1).alloc _)).trans hG.only (fun _ _ h => h)) (fun _ _ h => h)
    have hp2 := hO1.obj HP.out.1 HP.out.2.2.2
    have f0 : w2.frozen? ⟨p, o, none⟩ = false := block_free hp2
    have d1 : w2.cell? ⟨p, o, none⟩ = some (.slice a i c) := block_cell hp2 HP.out.2.1
    have lp2 := lt_of_heap hp2
    have HFIN : Hid (RowE p o cs t a (put E y.1 y.2) (ansE (fnd E y.1)) w (.returned .nilIface) (w2.setCell ⟨p, o, none⟩ (.slice a2 (i + 1) c2))) := Lib.hid (by
      have hO2 : Only (fun k => k = p) w2 (w2.setCell ⟨p, o, none⟩ (.slice a2 (i + 1) c2)) := (Only.refl _ _).setCell _ _ (fun _ => rfl)
      have hl : (E ++ [y]).length = i + 1 := by rw [List.length_append, hln]; rfl
      have hfr : ∀ k, At a2 k → At a k ∨ w.heap.size ≤ k := fun k hk => (hG.fresh k hk).imp id (fun h => by have := HS1.out.size; simp at h; omega)
      rw [HF.out.1, HF.out.2]
      refine ⟨a2, c2, rfl, by rw [hl]; exact setCell_heap hp2 o _, ⟨?_, rfl⟩, (hO1.mono (fun _ _ h => .inr h)).trans hO2 (fun _ _ h => .inl h), hfr⟩
      rw [hl]
      have := hG.own.keep hO2 (fun k hk e => by
        rcases hfr k hk with h1 | h1
        · rw [e] at h1; exact HP.out.2.2.2 h1
        · have := lt_of_heap HP.out.1; have e' : k = p := e; omega)
      have e2 : E.map entv ++ [.iface 66 (.agg #[.int .u64 (y.1 : Int), .int .i64 y.2])] = (E ++ [y]).map entv := by simp [entv]
      rw [e2] at this
      exact this)
    clear hG hO1 hp2 c1 l1 f1
    go_wp2_with fail
    go_ret
    exact HFIN.out
  · obtain ⟨z, hz⟩ := HP.out.2.2.1.rl.get (by omega : i < n)
    have hne : ((i : Int) == (n : Int)) = false := by rw [beq_eq_false_iff_ne]; omega
    have hi0 : (0 : Int) ≤ (i : Int) := by omega
    have hin' : i < n := by omega
    have hi1 : (i : Int) < (n : Int) := by omega
    obtain ⟨b, ha, hb, hc⟩ := HP.out.2.2.1.1.at (by omega)
    have hcz := hc i (entv z) (by rw [List.getElem?_map, hz]; rfl)
    rw [Nat.zero_add] at hcz
    have HZ : Hid (∀ wx, Same w wx → wx.cell? ⟨b, i, none⟩ = some (.iface 66 (.agg #[.int .u64 (z.1 : Int), .int .i64 z.2])) ∧ b < wx.heap.size) := Lib.hid (fun wx hx => ⟨(hx.cell (p := ⟨b, i, none⟩) hb id).trans hcz, Nat.lt_of_lt_of_le hb hx.size⟩)
    have HZE := Lib.hid hz
    have mz := methodE z.1 z.2
    have qz := nilE z.1 z.2
    subst ha
    clear hc hz hcz hb
    obtain ⟨z1, lz1⟩ := HZ.out w1 HS1.out
    go_wp2_with fail
    refine (HK.out _ _ _).mono ?_
    rintro e w2 ⟨rfl, hs2⟩
    have HS2 := Lib.hid (HS1.out.trans hs2)
    clear hs2 c1 l1 f1 z1 lz1
    obtain ⟨c2, l2, f2⟩ := HD.out w2 HS2.out
    obtain ⟨z2, lz2⟩ := HZ.out w2 HS2.out
    go_wp2_with fail
    refine (HK.out _ _ _).mono ?_
    rintro e w3 ⟨rfl, hs3⟩
    have HS3 := Lib.hid (HS2.out.trans hs3)
    clear hs3 c2 l2 f2 z2 lz2
    obtain ⟨c3, l3, f3⟩ := HD.out w3 HS3.out
    obtain ⟨z3, lz3⟩ := HZ.out w3 HS3.out
    have hbp : b ≠ p := fun e => HP.out.2.2.2 (by rw [← e]; exact rfl)
    have hpb : p ≠ b := fun e => hbp e.symm
    by_cases hzy : z.1 = y.1
    · have hzy' : ((z.1 : Int) == (y.1 : Int)) = true := by simp [hzy]
      have HF : Hid (fnd E y.1 = some z ∧ put E y.1 y.2 = E.set i y) := Lib.hid (by
        have h1 := HHS.out
        rw [HZE.out] at h1
        have h1' : has E y.1 = true := by rw [h1]; simp [hzy]
        have h2 := HFH.out
        have h3 := HPI.out
        rw [h1'] at h2 h3
        refine ⟨by rw [h2, if_pos rfl]; exact HZE.out, ?_⟩
        rw [h3, if_pos rfl, set_at E i y (by omega)])
      have fb : w3.frozen? ⟨b, i, none⟩ = false := (HP.out.2.2.1.1.keep HS3.out (fun _ _ => id)).frozen rfl i
      have HFIN : Hid (RowE p o cs t (some ⟨b, 0, none⟩) (put E y.1 y.2) (ansE (fnd E y.1)) w (.returned (entv z)) (w3.setCell ⟨b, i, none⟩ (entv y))) := Lib.hid (by
        rw [HF.out.1, HF.out.2]
        have hO := (Only.refl (fun k => k = b) w3).setCell ⟨b, i, none⟩ (entv y) (fun _ => rfl)
        have hl : (E.set i y).length = n := by rw [List.length_set, hln]
        refine ⟨some ⟨b, 0, none⟩, c, rfl, ?_, ⟨?_, rfl⟩, (HS3.out.mono (fun _ _ f => f.elim)).trans hO (fun k _ e => .inr (show b = k from (show k = b from e).symm)), fun k hk => .inl hk⟩
        · rw [hl, set_same HP.out.2.1]
          exact hO.obj (HS3.out.obj HP.out.1 id) (fun e => hbp (show p = b from e).symm)
        · rw [hl]
          have := (HP.out.2.2.1.1.keep HS3.out (fun _ _ => id)).set rfl i (entv y) rfl (by omega)
          rw [List.map_set]
          exact this)
      clear hzy
      go_wp2_with fail
      go_ret
      exact HFIN.out
    · have hzy' : ((z.1 : Int) == (y.1 : Int)) = false := by rw [beq_eq_false_iff_ne]; omega
      have HF : Hid (fnd E y.1 = none ∧ put E y.1 y.2 = E.take i ++ y :: E.drop i) := Lib.hid (by
        have h1 := HHS.out
        rw [HZE.out] at h1
        have h1' : has E y.1 = false := by rw [h1]; simp [hzy]
        have h2 := HFH.out
        have h3 := HPI.out
        rw [h1'] at h2 h3
        exact ⟨by rw [h2]; rfl, by rw [h3]; rfl⟩)
      obtain ⟨N, HNN⟩ : ∃ N, Hid (n + 1 = N) := ⟨_, Lib.hid rfl⟩
      have hN0 : N ≤ 1001 ∧ i + 1 < N := by have := HNN.out; omega
      obtain ⟨hN1, hN2⟩ := hN0
      clear hzy
      go_wp2_with (at_builtin; refine wpList_append N (E.map entv ++ [.nilIface]) rfl _ _ _ _ rfl slEn rfl ((HP.out.2.2.1.1.keep HS3.out (fun _ _ => id)).keep (S := fun _ => False) (by repeat (first | exact Only.refl _ _ | apply Only.alloc | apply Only.drew)) (fun _ _ => id)) rfl (Src.row (size := 1) (cs := #[.nilIface]) (t := 73) (fr := (0, 0)) Tryd.underlying68 (by exact heap_alloc_new _ _) 1 1 rfl (by intro u hu; simp at hu; subst hu; rfl)) HNN.out rfl (by unfold maxLen; omega) (by omega) ?_)
      intro a2 c2 w4 hG
      have hO1 : Only (At (some ⟨b, 0, none⟩)) w w4 := (HS3.out.mono (fun _ _ f => f.elim)).trans ((((Only.refl (At (some ⟨b, 0, none⟩)) w3).alloc _)).trans hG.only (fun _ _ h => h)) (fun _ _ h => h)
      have hp2 := hO1.obj HP.out.1 HP.out.2.2.2
      have f0 : w4.frozen? ⟨p, o, none⟩ = false := block_free hp2
      have d2 : w4.cell? ⟨p, o, none⟩ = some (.slice (some ⟨b, 0, none⟩) n c) := block_cell hp2 HP.out.2.1
      have lp4 := lt_of_heap hp2
      have hfr : ∀ k, At a2 k → At (some ⟨b, 0, none⟩) k ∨ w.heap.size ≤ k := fun k hk => (hG.fresh k hk).imp id (fun h => by have := HS3.out.size; simp at h; omega)
      obtain ⟨b2, ha2, hb2l, _⟩ := hG.own.at (by omega)
      subst ha2
      have hpw := lt_of_heap HP.out.1
      have hb2p : b2 ≠ p := fun e => by
        rcases hfr b2 rfl with h1 | h1
        · exact HP.out.2.2.2 (by rw [e] at h1; exact h1)
        · omega
      obtain ⟨w5, hw5⟩ : ∃ w5, w5 = w4.setCell ⟨p, o, none⟩ (.slice (some ⟨b2, 0, none⟩) N c2) := ⟨_, rfl⟩
      have hO2 : Only (fun k => k = p) w4 w5 := by rw [hw5]; exact (Only.refl _ _).setCell _ _ (fun _ => rfl)
      have hp3 : w5.heap[p]? = some (.cells (cs.setIfInBounds o (.slice (some ⟨b2, 0, none⟩) N c2)) t (0, 0)) := by rw [hw5]; exact setCell_heap hp2 o _
      have hol := (Array.getElem?_eq_some_iff.1 HP.out.2.1).1
      have d3 : w5.cell? ⟨p, o, none⟩ = some (.slice (some ⟨b2, 0, none⟩) N c2) := block_cell hp3 (by simp [hol])
      have hown3 : Own 73 1 w5 (some ⟨b2, 0, none⟩) N c2 (E.map entv ++ [.nilIface]) := hG.own.keep hO2 (fun k hk e => hb2p (by have e' : k = p := e; rw [← e']; exact hk))
      obtain ⟨cur, hcur, hcs⟩ := own_block hown3
      have hbd2 := hown3.bound
      have HW3 : Hid (w5.heap[p]? = some (.cells (cs.setIfInBounds o (.slice (some ⟨b2, 0, none⟩) N c2)) t (0, 0)) ∧ Own 73 1 w5 (some ⟨b2, 0, none⟩) N c2 (E.map entv ++ [.nilIface]) ∧ w5.heap[b2]? = some (.cells cur 73 (0, 0)) ∧ Only (fun k => k = p ∨ At (some ⟨b, 0, none⟩) k) w w5 ∧ (∀ k, At (some ⟨b2, 0, none⟩) k → At (some ⟨b, 0, none⟩) k ∨ w.heap.size ≤ k)) := Lib.hid ⟨hp3, hown3, hcur, (hO1.mono (fun _ _ h => .inr h)).trans hO2 (fun _ _ h => .inl h), hfr⟩
      have HRS : Hid (Rd 1 w5 (some ⟨b2, i, none⟩) (N - i) (c2 - i) ((E.map entv ++ [Value.nilIface]).drop i)) := Lib.hid (by
        have := hown3.rd.drop (k := i) (by omega)
        rw [Nat.mul_one, Nat.zero_add] at this
        exact this)
      have HFIT : Hid (i + 1 + (N - (i + 1)) ≤ cur.size) := Lib.hid (by have := HNN.out; omega)
      have g1 : ¬ c2 = i + 1 := by omega
      have g2 : ¬ c2 = i := by omega
      have g3 : (i : Int) + 1 ≤ (c2 : Int) := by omega
      have g4 : (i : Int) ≤ (c2 : Int) := by omega
      have g5 : IntKind.i64.wrap ((i : Int) + 1) = (i : Int) + 1 := IntWalk.i64_in _ (by omega)
      have g6 : ((i : Int) + 1).toNat = i + 1 := by omega
      have g7 : (i : Int) + 1 ≤ (N : Int) := by omega
      have g8 : (i : Int) ≤ (N : Int) := by omega
      have g9 : (0 : Int) ≤ (i : Int) + 1 := by omega
      have HKM : Hid (n - i = min (N - i) (N - (i + 1))) := Lib.hid (by have := HNN.out; omega)
      have HLN := Lib.hid hln
      clear hG hO1 hp2 hO2 hown3 hcur hcs hfr hp3 c3 l3 f3 z3 lz3 hln hpw
      go_upto_region 10 with fail
      rw [← hw5]
      clear hw5 f0 d2 lp4
      refine wp_region_still_tail 11 (by kernel_rfl) (by kernel_rfl) ?_
      simp only [List.take_succ_cons, List.take_zero, List.drop_succ_cons, List.drop_zero]
      repeat still_step
      refine wpStill_nil ?_
      refine wpList_copy (n - i) rfl _ _ _ _ rfl slEn rfl HW3.out.2.2.1 rfl (HRS.out.of_heap rfl) HKM.out HFIT.out ?_
      intro w7 hw7 ho7
      have hO5 : Only (fun j => j = b2) w5 w7 := ⟨ho7.os, ho7.tape, ho7.output, ho7.size, ho7.block⟩
      have hown5 := own_shift (m := N - (i + 1)) HNN.out HW3.out.2.1 (by rw [List.length_map]; exact HLN.out) hin' HW3.out.2.2.1 (by have := HNN.out; omega) (by rw [show N - (i + 1) = n - i by have := HNN.out; omega]; exact hw7)
      have hp5 := hO5.obj HW3.out.1 (fun e => hb2p (show p = b2 from e).symm)
      have d5 : w7.cell? ⟨p, o, none⟩ = some (.slice (some ⟨b2, 0, none⟩) N c2) := block_cell hp5 (by simp [hol])
      have f5 : w7.frozen? ⟨b2, i, none⟩ = false := hown5.frozen rfl i
      have lp7 := lt_of_heap hp5
      obtain ⟨_, q5, lb7, hc5⟩ := hown5.at (by omega)
      cases q5
      have g5' := hc5.at i (by rw [hown5.len]; omega)
      rw [Nat.zero_add] at g5'
      generalize ((E.map entv ++ [Value.nilIface]).take (i + 1) ++ (E.map entv).drop i)[i]'(by rw [hown5.len]; omega) = z5 at g5'
      have HFIN : Hid (RowE p o cs t (some ⟨b, 0, none⟩) (put E y.1 y.2) (ansE (fnd E y.1)) w (.returned .nilIface) (w7.setCell ⟨b2, i, none⟩ (entv y))) := Lib.hid (by
        rw [HF.out.1, HF.out.2]
        have hO6 : Only (fun k => k = b2) w7 (w7.setCell ⟨b2, i, none⟩ (entv y)) := (Only.refl _ _).setCell _ _ (fun _ => rfl)
        have hl : (E.take i ++ y :: E.drop i).length = N := by
          rw [List.length_append, List.length_cons, List.length_take, List.length_drop, HLN.out]; have := HNN.out; omega
        refine ⟨some ⟨b2, 0, none⟩, c2, rfl, ?_, ⟨?_, rfl⟩, ?_, HW3.out.2.2.2.2⟩
        · rw [hl]; exact hO6.obj hp5 (fun e => hb2p (show p = b2 from e).symm)
        · rw [hl]
          have := hown5.set rfl i (entv y) rfl (by omega)
          rw [shift_ins (E.map entv) i (entv y) .nilIface (by rw [List.length_map, HLN.out]; exact hin')] at this
          rw [List.map_append, List.map_cons, List.map_take, List.map_drop]
          exact this
        · have hk : ∀ k, k < w.heap.size → k = b2 → k = p ∨ At (some ⟨b, 0, none⟩) k := fun k hk e => by
            subst e
            rcases HW3.out.2.2.2.2 k rfl with h1 | h1
            · exact .inr h1
            · omega
          exact (HW3.out.2.2.2.1.trans hO5 hk).trans hO6 hk)
      clear hw7 ho7 hO5 hown5 hp5 hc5
      go_wp2_with fail
      go_ret
      exact HFIN.out
end
end Go.Proofs.YtcjifjfcjimefaaDoor.yf

/-
  laws.trSteps: at most 60 steps, each as it may be.
-/
import Derived.Test.YtkplikpncpcjdaaDoorXfFew
import Derived.Test.YtkplikpncpcjdaaDoorXfOnes
namespace Go.Proofs.YtkplikpncpcjdaaDoor.xf
open Go.ChangeShapes Go.WideShapes Go.ChangeAt Go.RowKit Go.Proofs.YtkplikpncpcjdaaDoor.base Go.Proofs.YtkplikpncpcjdaaDoor.heap Go.Proofs.YtkplikpncpcjdaaDoor.rows Go.Proofs.YtkplikpncpcjdaaDoor.mapn
set_option linter.unusedVariables false

theorem tmod7 (x : Int) : -6 ≤ x.tmod 7 ∧ x.tmod 7 ≤ 6 := by
  have key : ∀ y : Int, 0 ≤ y → 0 ≤ y.tmod 7 ∧ y.tmod 7 ≤ 6 := fun y hy => by
    rw [Int.tmod_eq_emod_of_nonneg hy]; omega
  rcases Int.le_total 0 x with h | h
  · have := key x h; omega
  · have := key (-x) (by omega)
    rw [Int.neg_tmod] at this
    omega
/-- a step that is made, in a block of its own -/
structure Mid (w wr : World) (g : Nat) (op : Int) (ia : Option Addr) (n ic : Nat) (I : List It) (ka : Option Addr) (km kc : Nat) : Prop where
  blk : wr.heap[g]? = some (.cells #[.int .i64 op, .slice ia n ic, .slice ka km kc] 36 (0, 0))
  items : OS 28 itc 2 wr ia n ic I
  same : Same w wr
  gnew : w.heap.size ≤ g
  inew : ∀ k, At ia k → w.heap.size ≤ k ∧ k ≠ g
theorem Mid.still {w wr w' : World} {g : Nat} {op : Int} {ia ka : Option Addr} {n ic km kc : Nat} {I : List It} (h : Mid w wr g op ia n ic I ka km kc) (hs : Same wr w') : Mid w w' g op ia n ic I ka km kc :=
  ⟨hs.obj h.blk id, h.items.still hs, h.same.trans hs, h.gnew, h.inew⟩
theorem Mid.step {w wr wk w8 : World} {g : Nat} {op : Int} {ia ka a2 : Option Addr} {n ic km kc c2 : Nat} {I : List It} {y : It} (h : Mid w wr g op ia n ic I ka km kc) (hs : Same wr wk) (hG : Grew 28 2 wk w8 ia a2 1 (n + 1) ic c2 (I.flatMap itc ++ itc y)) :
    w8.heap[g]? = some (.cells #[.int .i64 op, .slice ia n ic, .slice ka km kc] 36 (0, 0)) ∧ Mid w (w8.setCell ⟨g, 1, none⟩ (.slice a2 (n + 1) c2)) g op a2 (n + 1) c2 (I ++ [y]) ka km kc := by
  have hg := lt_of_heap h.blk
  have z1 := hs.size
  have b8 := hG.only.obj (hs.obj h.blk id) (fun e => (h.inew g e).2 rfl)
  have hO : Only (fun k => k = g) w8 (w8.setCell ⟨g, 1, none⟩ (.slice a2 (n + 1) c2)) := (Only.refl (fun k => k = g) w8).setCell ⟨g, 1, none⟩ _ (fun _ => rfl)
  have hn : ∀ k, At a2 k → w.heap.size ≤ k ∧ k ≠ g := fun k hk => by
    rcases hG.fresh k hk with h' | h'
    · exact h.inew k h'
    · have := h.same.size
      exact ⟨by omega, fun e => by omega⟩
  refine ⟨b8, setCell_heap b8 1 _, ⟨?_, by rw [List.length_append, h.items.2]; rfl⟩, ?_, h.gnew, hn⟩
  · rw [flat_snoc]
    exact hG.own.keep hO (fun k hk e => (hn k hk).2 e)
  · exact new_only (new_only (h.same.trans hs) hG.only (fun k hk => (h.inew k hk).1)) hO (fun k e => by have e' : k = g := e; have := h.gnew; omega)
/-- steps that are made -/
structure Stps (w wr : World) (m : Nat) (oa : Option Addr) (n cap : Nat) (S : List Stp) : Prop where
  row : New 36 stc 3 w wr oa n cap S
  okay : ∀ s ∈ S, Okay m s ∧ s.km = 1
  ins : ∀ s ∈ S, StIn wr s ∧ ∀ k, At s.ia k ∨ At s.ka k → w.heap.size ≤ k ∧ k < wr.heap.size ∧ ¬ At oa k
theorem Stps.nil (w : World) (m : Nat) : Stps w w m none 0 0 [] := ⟨New.nil _ _ _ _, (fun s h => (nomatch h)), (fun s h => (nomatch h))⟩
theorem Stps.step {w wr wk w8 : World} {m : Nat} {oa oa2 : Option Addr} {j oc oc2 : Nat} {S : List Stp} {s : Stp} (h : Stps w wr m oa j oc S) (hs : Same wr wk) (hO : Okay m s ∧ s.km = 1) (hI : StIn wk s) (hf : ∀ k, At s.ia k ∨ At s.ka k → wr.heap.size ≤ k ∧ k < wk.heap.size)
    (hG : Grew 36 3 wk w8 oa oa2 1 (j + 1) oc oc2 (S.flatMap stc ++ stc s)) : Stps w w8 m oa2 (j + 1) oc2 (S ++ [s]) := by
  have z0 := h.row.same.size
  have z1 := hs.size
  have z3 := hG.only.size
  have hoa : ∀ k, At oa k → k < wr.heap.size := h.row.row.1.lt
  have hfr : ∀ k, At oa2 k → At oa k ∨ wk.heap.size ≤ k := fun k hk => hG.fresh k hk
  refine ⟨h.row.step hs hG, fun u hu => ?_, fun u hu => ?_⟩
  · rcases List.mem_append.1 hu with hu | hu
    · exact h.okay u hu
    · rw [List.mem_singleton] at hu; subst hu; exact hO
  · rcases List.mem_append.1 hu with hu | hu
    · obtain ⟨g1, g2⟩ := h.ins u hu
      have g3 := g1.still hs
      refine ⟨⟨g3.1.keep hG.only (fun k hk => (g2 k (.inl hk)).2.2), g3.2.keep hG.only (fun k hk => (g2 k (.inr hk)).2.2)⟩, fun k hk => ⟨(g2 k hk).1, by have := (g2 k hk).2.1; omega, fun hk' => ?_⟩⟩
      rcases hfr k hk' with h' | h'
      · exact (g2 k hk).2.2 h'
      · have := (g2 k hk).2.1; omega
    · rw [List.mem_singleton] at hu
      subst hu
      have hno : ∀ k, At u.ia k ∨ At u.ka k → ¬ At oa k := fun k hk ha => by have := hoa k ha; have := (hf k hk).1; omega
      refine ⟨⟨hI.1.keep hG.only (fun k hk => hno k (.inl hk)), hI.2.keep hG.only (fun k hk => hno k (.inr hk))⟩, fun k hk => ⟨by have := (hf k hk).1; omega, by have := (hf k hk).2; omega, fun hk' => ?_⟩⟩
      rcases hfr k hk' with h' | h'
      · exact hno k hk h'
      · have := (hf k hk).2; omega
/-- a step that was made, with its key -/
structure Whole (w wr : World) (g : Nat) (op : Int) (ia : Option Addr) (n ic : Nat) (I : List It) (kb K : Nat) : Prop where
  mid : Mid w wr g op ia n ic I (some ⟨kb, 0, none⟩) 1 1
  key : wr.heap[kb]? = some (.cells #[.int .u64 (K : Int)] 25 (0, 0))
  knew : w.heap.size ≤ kb
  kg : kb ≠ g ∧ ¬ At ia kb
theorem Whole.drew {w wr : World} {g : Nat} {op : Int} {ia : Option Addr} {n ic : Nat} {I : List It} {kb K : Nat} (h : Whole w wr g op ia n ic I kb K) : Whole w wr.drew g op ia n ic I kb K := ⟨h.mid.still (Only.refl _ _).drew, h.key, h.knew, h.kg⟩
theorem Whole.setK {w wr : World} {g : Nat} {op : Int} {ia : Option Addr} {n ic : Nat} {I : List It} {kb K : Nat} (h : Whole w wr g op ia n ic I kb K) (K' : Nat) : Whole w (wr.setCell ⟨kb, 0, none⟩ (.int .u64 (K' : Int))) g op ia n ic I kb K' := by
  have hO : Only (fun j => j = kb) wr (wr.setCell ⟨kb, 0, none⟩ (.int .u64 (K' : Int))) := (Only.refl _ _).setCell ⟨kb, 0, none⟩ _ (fun _ => rfl)
  have hk := h.knew
  exact ⟨⟨hO.obj h.mid.blk (fun e => h.kg.1 e.symm), h.mid.items.keep hO (fun j hj e => h.kg.2 (by have e' : j = kb := e; rw [← e']; exact hj)), new_only h.mid.same hO (fun j e => by have e' : j = kb := e; omega), h.mid.gnew, h.mid.inew⟩, setCell_heap h.key 0 _, hk, h.kg⟩
theorem Stps.whole {w w0 wk w8 : World} {m : Nat} {oa oa2 : Option Addr} {j oc oc2 : Nat} {S : List Stp} {g : Nat} {q : Int} {ia : Option Addr} {k ic kb K : Nat} {I : List It} (h : Stps w w0 m oa j oc S) (hW : Whole w0 wk g q ia k ic I kb K) (hq : q = 1 ∨ q = 3 ∨ q = 4 ∨ q = 5 ∨ q = 6 ∨ q = 7) (hk : k ≤ 12) (hI : ∀ y ∈ I, y.1 < 2 ^ m) (hK : K < 2 ^ m) {o : Obj}
    (hG : Grew 36 3 (wk.alloc o) w8 oa oa2 1 (j + 1) oc oc2 (S.flatMap stc ++ stc ⟨q, ia, k, ic, I, some ⟨kb, 0, none⟩, 1, 1, [K]⟩)) : Stps w w8 m oa2 (j + 1) oc2 (S ++ [⟨q, ia, k, ic, I, some ⟨kb, 0, none⟩, 1, 1, [K]⟩]) := by
  have hO : Same wk (wk.alloc o) := (Only.refl _ _).alloc _
  have z := hO.size
  have hl := lt_of_heap hW.key
  have hRL : RL uv wk (some ⟨kb, 0, none⟩) 1 1 [K] := ⟨(Own.of_block (size := 1) hW.key 1 1 (Nat.le_refl _) (by unfold maxLen; omega) rfl (fun u hu => by simp at hu; subst hu; rfl)).rd, rfl⟩
  refine h.step (hW.mid.same.trans hO) ⟨⟨hq, by show I.length ≤ 100; rw [hW.mid.items.2]; omega, hI, hK⟩, rfl⟩ ⟨hW.mid.items.rs.still hO, hRL.still hO⟩ (fun x hx => ?_) hG
  rcases hx with hx | hx
  · have h1 := hW.mid.items.1.lt x hx
    exact ⟨(hW.mid.inew x hx).1, by omega⟩
  · have e : kb = x := hx
    have := hW.knew
    omega
/-- the steps that are read -/
def Has (W : World) (l : List Stp) : Prop := ∀ s ∈ l, StIn W s ∧ (∀ y ∈ s.I, y.1 < 2 ^ 64) ∧ ∀ k ∈ s.K, k < 2 ^ 64
set_option maxRecDepth 100000 in
set_option maxHeartbeats 3200000 in
theorem trSteps_of (w : World) (a : Option Addr) (n cap m : Nat) (l : List Stp) (hR : RS stc 3 w a n cap l) (hH : Has w l) (hm : Bits m) : Calls Tryd.prog 13 #[.slice a n cap, uv (2 ^ m - 1), .bool true] w (fun e w' => ∃ a' n' c' S, e = .returned (.slice a' n' c') ∧ n' ≤ 60 ∧ Stps w w' m a' n' c' S) := by
  have HR := Lib.hid hR
  have HH := Lib.hid hH
  have bd := hR.bound
  have hln := hR.2
  have hM : Hid (∀ k : Nat, k < 2 ^ 64 → k &&& (2 ^ m - 1) < 2 ^ m) := Lib.hid (fun k _ => by rw [Nat.and_two_pow_sub_one_eq_mod]; exact Nat.mod_lt _ (Nat.two_pow_pos m))
  have hmk : 2 ^ m - 1 < 2 ^ 64 := by rcases hm with rfl | rfl | rfl | rfl <;> omega
  obtain ⟨M, hMM⟩ : ∃ M, 2 ^ m - 1 = M := ⟨_, rfl⟩
  rw [hMM] at hM hmk ⊢
  have HMK := Lib.hid hmk
  have HN0 := Lib.hid (Stps.nil w m)
  clear hR hH hm hMM hmk
  show Calls Tryd.prog 13 #[.slice a n cap, .int .u64 (M : Int), .bool true] w _
  go_enter Tryd.func13, Tryd.ntmps13
  go_wp2_with fail
  go_loopw [7, 8] (fun o i wr => ∃ (j : Nat) (oa : Option Addr) (oc : Nat) (S : List Stp), o = .slice oa j oc ∧ i = .int .i64 (j : Int) ∧ j ≤ n ∧ j ≤ 60 ∧ Hid (Stps w wr m oa j oc S)) (fun _ i _ => 60 - (intOf i).toNat)
  case atStart => exact ⟨0, none, 0, [], rfl, rfl, Nat.zero_le _, Nat.zero_le _, HN0⟩
  case round =>
    clear HN0
    obtain ⟨j, oa, oc, S, rfl, rfl, hj, hj60, HG⟩ := hrel
    obtain ⟨w0, rfl⟩ : ∃ w0, w0 = wr := ⟨_, rfl⟩
    have hbo := HG.out.row.row.bound
    by_cases hlt : j < n
    · have hlt' : (j : Int) < (n : Int) := by omega
      by_cases h60 : j < 60
      · have h60' : (j : Int) < 60 := by omega
        obtain ⟨s, hs⟩ := HR.out.get hlt
        obtain ⟨b, off, ha, hb, hc⟩ := (HR.out.still HG.out.row.same).at stc_len (by omega)
        have hc2 := hc j s hs
        have c0 : w0.cell? ⟨b, off + j * 3, none⟩ = some (.int .i64 s.op) := hc2 0 _ rfl
        have c1 : w0.cell? ⟨b, off + j * 3 + 1, none⟩ = some (.slice s.ia s.im s.ic) := hc2 1 _ rfl
        have c2 : w0.cell? ⟨b, off + j * 3 + 2, none⟩ = some (.slice s.ka s.km s.kc) := hc2 2 _ rfl
        have HC := Lib.hid (And.intro hb (And.intro c1 c2))
        have HY := Lib.hid hs
        have HS := Lib.hid (HH.out s (List.mem_of_getElem? hs))
        subst ha
        clear hc hc2 hs
        have hq := tmod7 s.op
        go_upto_region 6 with fail
        obtain ⟨q, hqq⟩ : ∃ q, 1 + s.op.tmod 7 = q := ⟨_, rfl⟩
        have hq1 : -5 ≤ q ∧ q ≤ 7 := by omega
        rw [hqq]
        obtain ⟨w1, hw1⟩ : ∃ w1, (w0.alloc (.cells #[.int .i64 q, .slice none 0 0, .slice none 0 0] 36)) = w1 := ⟨_, rfl⟩
        obtain ⟨g, hg⟩ : ∃ g, w0.heap.size = g := ⟨_, rfl⟩
        have HM1 : Hid (Mid w0 w1 g q none 0 0 [] none 0 0) := Lib.hid (by
          rw [← hw1, ← hg]
          exact ⟨heap_alloc_new _ _, OS.nil _ _ _ _, (Only.refl _ _).alloc _, Nat.le_refl _, fun k hk => hk.elim⟩)
        rw [hw1, hg]
        have k0 : w1.cell? ⟨g, 0, none⟩ = some (.int .i64 q) := block_cell HM1.out.blk rfl
        have kf : w1.frozen? ⟨g, 0, none⟩ = false := block_free HM1.out.blk
        have lg := lt_of_heap HM1.out.blk
        clear c0 c1 c2 hq hqq hw1 hg
        go_cut [51] (fun t wx => ∃ tb : Bool, t = .bool tb ∧ Hid (wx = w1) ∧ Hid (tb = true ↔ (q < 1 ∨ q = 2)))
        case first =>
          by_cases o1 : q < 1
          · go_wp2_with fail
            go_meet
            exact ⟨true, rfl, Lib.hid rfl, Lib.hid (by simp; omega)⟩
          by_cases o2 : q = 2
          · subst o2
            go_wp2_with fail
            go_meet
            exact ⟨true, rfl, Lib.hid rfl, Lib.hid (by simp)⟩
          · have o3 : (q == 2) = false := by simpa using o2
            go_wp2_with fail
            go_meet
            exact ⟨false, rfl, Lib.hid rfl, Lib.hid (by simp; omega)⟩
        case rest =>
        obtain ⟨tb, rfl, HW, HTB⟩ := hcut
        obtain rfl := HW.out
        clear HW
        go_upto_if 51 with fail
        go_cut [] (fun wx => ∃ q', Hid (q' = 1 ∨ q' = 3 ∨ q' = 4 ∨ q' = 5 ∨ q' = 6 ∨ q' = 7) ∧ Hid (Mid w0 wx g q' none 0 0 [] none 0 0))
        case first =>
          have HM3 : Hid (Mid w0 (wc.setCell ⟨g, 0, none⟩ (.int .i64 3)) g 3 none 0 0 [] none 0 0) := Lib.hid ⟨setCell_heap HM1.out.blk 0 _, OS.nil _ _ _ _, new_only HM1.out.same ((Only.refl (fun k => k = g) wc).setCell ⟨g, 0, none⟩ _ (fun _ => rfl)) (fun k e => by have e' : k = g := e; have := HM1.out.gnew; omega), HM1.out.gnew, fun k hk => hk.elim⟩
          cases tb with
          | true =>
            go_wp2_with fail
            go_meet
            exact ⟨3, Lib.hid (by omega), HM3⟩
          | false =>
            have HQ : Hid (q = 1 ∨ q = 3 ∨ q = 4 ∨ q = 5 ∨ q = 6 ∨ q = 7) := Lib.hid (by
              have := HTB.out
              simp at this
              omega)
            go_wp2_with fail
            go_meet
            exact ⟨q, HQ, HM1⟩
        case rest =>
        obtain ⟨q', hq', HMI⟩ := hcut
        clear HM1 HTB hq1 k0 kf lg
        have c1 : wc.cell? ⟨b, off + j * 3 + 1, none⟩ = some (.slice s.ia s.im s.ic) := (HMI.out.same.cell (p := ⟨b, off + j * 3 + 1, none⟩) hb id).trans HC.out.2.1
        have hbi := HS.out.1.1.bound
        have hbk := HS.out.1.2.bound
        go_upto_block 2 with fail
        go_cut [] (fun wx => ∃ (k : Nat) (ia : Option Addr) (ic : Nat) (I : List It), k ≤ 12 ∧ Hid (Mid w0 wx g q' ia k ic I none 0 0 ∧ ∀ y ∈ I, y.1 < 2 ^ m))
        case first =>
          go_wp2_with fail
          go_loopw [10] (fun i wx => ∃ (k : Nat) (ia : Option Addr) (ic : Nat) (I : List It), i = .int .i64 (k : Int) ∧ k ≤ s.im ∧ k ≤ 12 ∧ Hid (Mid w0 wx g q' ia k ic I none 0 0 ∧ ∀ y ∈ I, y.1 < 2 ^ m)) (fun i _ => 12 - (intOf i).toNat)
          case atStart => exact ⟨0, none, 0, [], rfl, Nat.zero_le _, Nat.zero_le _, Lib.hid ⟨HMI.out, fun y h => (nomatch h)⟩⟩
          case round =>
            clear HMI c1
            obtain ⟨k, ia, ic, I, rfl, hk, hk12, HK⟩ := hrel
            have hb2 := HK.out.1.items.bound
            have c1 : wr.cell? ⟨b, off + j * 3 + 1, none⟩ = some (.slice s.ia s.im s.ic) := (HK.out.1.same.cell (p := ⟨b, off + j * 3 + 1, none⟩) hb id).trans HC.out.2.1
            have lbw : b < wr.heap.size := Nat.lt_of_lt_of_le hb HK.out.1.same.size
            have s1 : wr.cell? ⟨g, 1, none⟩ = some (.slice ia k ic) := block_cell HK.out.1.blk rfl
            have lg := lt_of_heap HK.out.1.blk
            by_cases hki : k < s.im
            · have hki' : (k : Int) < (s.im : Int) := by omega
              by_cases h12 : k < 12
              · have h12' : (k : Int) < 12 := by omega
                obtain ⟨y, hy⟩ := HS.out.1.1.get hki
                have hyM := HS.out.2.1 y (List.mem_of_getElem? hy)
                obtain ⟨b', off', ha, hb', hc⟩ := ((HS.out.1.1.still HG.out.row.same).still HK.out.1.same).at itc_len (by omega)
                have d0 : wr.cell? ⟨b', off' + k * 2, none⟩ = some (.int .u64 (y.1 : Int)) := hc k y hy 0 _ rfl
                have d1 : wr.cell? ⟨b', off' + k * 2 + 1, none⟩ = some (.int .i64 y.2) := hc k y hy 1 _ rfl
                rw [ha] at c1
                obtain ⟨kq, hkq⟩ : ∃ kq, y.1 &&& M = kq := ⟨_, rfl⟩
                have hand : bits .and .u64 (y.1 : Int) (M : Int) = (kq : Int) := by
                  rw [← hkq]
                  exact u64_and_nat y.1 M (by simpa using hyM) (by have := HMK.out; simpa using this)
                have HKQ : Hid (kq < 2 ^ m) := Lib.hid (by rw [← hkq]; exact hM.out _ hyM)
                clear hc hy hkq ha hyM
                go_wp2_with (at_builtin; refine wpList_append (k + 1) (I.flatMap itc ++ [.int .u64 (kq : Int), .int .i64 y.2]) rfl _ _ _ _ rfl slIt rfl (HK.out.1.items.1.keep (S := fun _ => False) (by repeat (first | exact Only.refl _ _ | apply Only.alloc | apply Only.drew)) (fun _ _ => id)) rfl (Src.row (size := 2) (cs := #[.int .u64 (kq : Int), .int .i64 y.2]) (t := 28) (fr := (0, 0)) Tryd.underlying22 (by exact heap_alloc_new' _ _ _ (by simp)) 1 1 rfl (by simp [Value.oneCell'])) rfl rfl (by unfold maxLen; omega) (by omega) ?_)
                intro a2 c2 w8 hG
                have hSG := HK.out.1.step (y := (kq, y.2)) (((Only.refl _ _).alloc _).alloc _) hG
                have HSG : Hid (Mid w0 (w8.setCell ⟨g, 1, none⟩ (.slice a2 (k + 1) c2)) g q' a2 (k + 1) c2 (I ++ [(kq, y.2)]) none 0 0 ∧ ∀ z ∈ I ++ [(kq, y.2)], z.1 < 2 ^ m) := Lib.hid ⟨hSG.2, fun z hz => by
                  rcases List.mem_append.1 hz with hz | hz
                  · exact HK.out.2 z hz
                  · rw [List.mem_singleton] at hz; subst hz; exact HKQ.out⟩
                have f8 : w8.frozen? ⟨g, 1, none⟩ = false := block_free hSG.1
                have s8 : w8.cell? ⟨g, 1, none⟩ = some (.slice ia k ic) := block_cell hSG.1 rfl
                have l8 := lt_of_heap hSG.1
                clear hG hSG c1 s1 d0 d1
                go_wp2_with fail
                go_roundw
                case rel => exact ⟨k + 1, a2, c2, _, by go_num, by omega, by omega, HSG⟩
                case measure => simp [intOf]; omega
              · have h12' : ¬ (k : Int) < 12 := by omega
                obtain rfl : k = 12 := by omega
                go_wp2_with fail
                go_meet
                exact ⟨12, ia, ic, I, Nat.le_refl _, HK⟩
            · have hki' : ¬ (k : Int) < (s.im : Int) := by omega
              go_wp2_with fail
              go_meet
              exact ⟨k, ia, ic, I, hk12, HK⟩
        case rest =>
        obtain ⟨k, ia, ic, I, hk12, HK⟩ := hcut
        clear HMI c1
        obtain ⟨kb, hkb⟩ : ∃ kb, wc.heap.size = kb := ⟨_, rfl⟩
        have HKM : Hid (∀ y ∈ I, y.1 < 2 ^ m) := Lib.hid HK.out.2
        have lg := lt_of_heap HK.out.1.blk
        have f2 : wc.frozen? ⟨g, 2, none⟩ = false := block_free HK.out.1.blk
        have s2 : wc.cell? ⟨g, 2, none⟩ = some (.slice none 0 0) := block_cell HK.out.1.blk rfl
        have c2 : wc.cell? ⟨b, off + j * 3 + 2, none⟩ = some (.slice s.ka s.km s.kc) := (HK.out.1.same.cell (p := ⟨b, off + j * 3 + 2, none⟩) hb id).trans HC.out.2.2
        have lbw : b < wc.heap.size := Nat.lt_of_lt_of_le hb HK.out.1.same.size
        have HW1 : Hid (Whole w0 ((wc.setCell ⟨g, 2, none⟩ (.slice (some ⟨kb, 0, none⟩) 1 1)).alloc (.cells #[.int .u64 0] 25)) g q' ia k ic I kb 0) := Lib.hid (by
          have h1 := HK.out.1
          have hO2 : Only (fun j => j = g) wc (wc.setCell ⟨g, 2, none⟩ (.slice (some ⟨kb, 0, none⟩) 1 1)) := (Only.refl _ _).setCell ⟨g, 2, none⟩ _ (fun _ => rfl)
          have z := HK.out.1.same.size
          have h2 : Mid w0 (wc.setCell ⟨g, 2, none⟩ (.slice (some ⟨kb, 0, none⟩) 1 1)) g q' ia k ic I (some ⟨kb, 0, none⟩) 1 1 := ⟨setCell_heap h1.blk 2 _, h1.items.keep hO2 (fun j hj e => (h1.inew j hj).2 e), new_only h1.same hO2 (fun j e => by have e' : j = g := e; have := h1.gnew; omega), h1.gnew, h1.inew⟩
          exact ⟨h2.still ((Only.refl _ _).alloc _), heap_alloc_new' _ _ _ (by rw [← hkb]; simp), by omega, ⟨by have := lt_of_heap h1.blk; omega, fun hj => by have := h1.items.1.lt kb hj; omega⟩⟩)
        rw [← hkb] at HW1
        have HKB := Lib.hid hkb
        have hbg : b ≠ g := fun e => by have := HK.out.1.gnew; omega
        have hgb : g ≠ b := fun e => hbg e.symm
        clear hkb
        have hb9 := HK.out.1.items.bound
        by_cases hkm : s.km = 0
        · have hkm' : ¬ (0 : Int) < (s.km : Int) := by omega
          have HKL : Hid ((0 : Nat) < 2 ^ m) := Lib.hid (Nat.two_pow_pos m)
          go_upto_region 16 with fail
          rw [HKB.out] at HW1 ⊢
          obtain ⟨w4, hw4⟩ : ∃ w4, ((wc.setCell ⟨g, 2, none⟩ (.slice (some ⟨kb, 0, none⟩) 1 1)).alloc (.cells #[.int .u64 0] 25)) = w4 := ⟨_, rfl⟩
          rw [hw4] at HW1 ⊢
          have HWH := HW1
          clear hw4 HK HW1 c2 s2 f2 lg lbw HKB
          have g0 : w4.cell? ⟨g, 0, none⟩ = some (.int .i64 q') := block_cell HWH.out.mid.blk rfl
          have g1 : w4.cell? ⟨g, 1, none⟩ = some (.slice ia k ic) := block_cell HWH.out.mid.blk rfl
          have g2 : w4.cell? ⟨g, 2, none⟩ = some (.slice (some ⟨kb, 0, none⟩) 1 1) := block_cell HWH.out.mid.blk rfl
          have lg8 := lt_of_heap HWH.out.mid.blk
          go_wp2_with (at_builtin; refine wpList_append (j + 1) (S.flatMap stc ++ stc ⟨q', ia, k, ic, I, some ⟨kb, 0, none⟩, 1, 1, [0]⟩) rfl _ _ _ _ rfl slSt rfl (HG.out.row.row.1.keep (S := fun _ => False) (by repeat (first | exact HWH.out.mid.same | apply Only.alloc | apply Only.drew)) (fun _ _ => id)) rfl (Src.row (size := 3) (cs := #[.int .i64 q', .slice ia k ic, .slice (some ⟨kb, 0, none⟩) 1 1]) (t := 36) (fr := (0, 0)) Tryd.underlying32 (by exact heap_alloc_new' _ _ _ (by simp)) 1 1 rfl (by simp [Value.oneCell'])) rfl rfl (by unfold maxLen; omega) (by omega) ?_)
          intro a8 c8 w8 hG
          have HST : Hid (Stps w w8 m a8 (j + 1) c8 (S ++ [⟨q', ia, k, ic, I, some ⟨kb, 0, none⟩, 1, 1, [0]⟩])) := Lib.hid (HG.out.whole HWH.out hq'.out hk12 HKM.out HKL.out hG)
          clear hG g0 g1 g2 lg8
          go_wp2_with fail
          go_roundw
          case rel => exact ⟨j + 1, a8, c8, _, rfl, by go_num, by omega, by omega, HST⟩
          case measure => simp [intOf]; omega
        · have hkm' : (0 : Int) < (s.km : Int) := by omega
          obtain ⟨x, hx⟩ := HS.out.1.2.get (by omega : 0 < s.km)
          obtain ⟨b', off', ha, hb', hc⟩ := (((HS.out.1.2.still HG.out.row.same).still HK.out.1.same).still (w' := wc) (Only.refl _ _)).at (by omega)
          have d0 : wc.cell? ⟨b', off', none⟩ = some (.int .u64 (x : Int)) := hc 0 x hx
          have hxM := HS.out.2.2 x (List.mem_of_getElem? hx)
          rw [ha] at c2
          obtain ⟨kq, hkq⟩ : ∃ kq, x &&& M = kq := ⟨_, rfl⟩
          have hand : bits .and .u64 (x : Int) (M : Int) = (kq : Int) := by
            rw [← hkq]
            exact u64_and_nat x M (by simpa using hxM) (by have := HMK.out; simpa using this)
          have HKL : Hid (kq < 2 ^ m) := Lib.hid (by rw [← hkq]; exact hM.out _ hxM)
          obtain ⟨b2, off2, ha2, hb2, _⟩ := HS.out.1.2.at (by omega)
          have hbg2 : b' ≠ g := fun e => by
            rw [ha2] at ha
            cases ha
            have := HK.out.1.gnew
            have := HG.out.row.same.size
            omega
          have hgb2 : g ≠ b' := fun e => hbg2 e.symm
          clear hc hx hxM ha hkq ha2
          go_upto_region 15 with fail
          rw [HKB.out] at HW1 ⊢
          have HSW : Hid (∀ p : Addr, p.block < wc.heap.size → p.block ≠ g → ((wc.setCell ⟨g, 2, none⟩ (.slice (some ⟨kb, 0, none⟩) 1 1)).alloc (.cells #[.int .u64 0] 25)).cell? p = wc.cell? p) := Lib.hid (fun p hp hn => (((Only.refl (fun j => j = g) wc).setCell ⟨g, 2, none⟩ _ (fun _ => rfl)).alloc _).cell hp (fun e => hn e))
          have HSZ : Hid (wc.heap.size < ((wc.setCell ⟨g, 2, none⟩ (.slice (some ⟨kb, 0, none⟩) 1 1)).alloc (.cells #[.int .u64 0] 25)).heap.size) := Lib.hid (by simp)
          obtain ⟨w4, hw4⟩ : ∃ w4, ((wc.setCell ⟨g, 2, none⟩ (.slice (some ⟨kb, 0, none⟩) 1 1)).alloc (.cells #[.int .u64 0] 25)) = w4 := ⟨_, rfl⟩
          rw [hw4] at HW1 HSW HSZ ⊢
          have c4 : w4.cell? ⟨b, off + j * 3 + 2, none⟩ = some (.slice (some ⟨b', off', none⟩) s.km s.kc) := (HSW.out ⟨b, off + j * 3 + 2, none⟩ lbw hbg).trans c2
          have d4 : w4.cell? ⟨b', off', none⟩ = some (.int .u64 (x : Int)) := (HSW.out ⟨b', off', none⟩ hb' hbg2).trans d0
          have g4 : w4.cell? ⟨g, 2, none⟩ = some (.slice (some ⟨kb, 0, none⟩) 1 1) := block_cell HW1.out.mid.blk rfl
          have k4 : w4.cell? ⟨kb, 0, none⟩ = some (.int .u64 ((0 : Nat) : Int)) := block_cell HW1.out.key rfl
          have f4 : w4.frozen? ⟨kb, 0, none⟩ = false := block_free HW1.out.key
          have lg4 := lt_of_heap HW1.out.mid.blk
          have lk4 := lt_of_heap HW1.out.key
          have lb4 : b < w4.heap.size := Nat.lt_trans lbw HSZ.out
          have lb4' : b' < w4.heap.size := Nat.lt_trans hb' HSZ.out
          clear hw4 HK HSW HSZ c2 d0 s2 f2 lg lbw HKB
          go_region
          have HWH : Hid (Whole w0 ((w4.setCell ⟨kb, 0, none⟩ (.int .u64 (kq : Int))).drew) g q' ia k ic I kb kq) := Lib.hid (HW1.out.setK kq).drew
          obtain ⟨w6, hw6⟩ : ∃ w6, ((w4.setCell ⟨kb, 0, none⟩ (.int .u64 (kq : Int))).drew) = w6 := ⟨_, rfl⟩
          rw [hw6] at HWH ⊢
          clear hw6 HW1 c4 d4 g4 k4 f4 lg4 lk4 lb4 lb4'
          have g0 : w6.cell? ⟨g, 0, none⟩ = some (.int .i64 q') := block_cell HWH.out.mid.blk rfl
          have g1 : w6.cell? ⟨g, 1, none⟩ = some (.slice ia k ic) := block_cell HWH.out.mid.blk rfl
          have g2 : w6.cell? ⟨g, 2, none⟩ = some (.slice (some ⟨kb, 0, none⟩) 1 1) := block_cell HWH.out.mid.blk rfl
          have lg8 := lt_of_heap HWH.out.mid.blk
          go_wp2_with (at_builtin; refine wpList_append (j + 1) (S.flatMap stc ++ stc ⟨q', ia, k, ic, I, some ⟨kb, 0, none⟩, 1, 1, [kq]⟩) rfl _ _ _ _ rfl slSt rfl (HG.out.row.row.1.keep (S := fun _ => False) (by repeat (first | exact HWH.out.mid.same | apply Only.alloc | apply Only.drew)) (fun _ _ => id)) rfl (Src.row (size := 3) (cs := #[.int .i64 q', .slice ia k ic, .slice (some ⟨kb, 0, none⟩) 1 1]) (t := 36) (fr := (0, 0)) Tryd.underlying32 (by exact heap_alloc_new' _ _ _ (by simp)) 1 1 rfl (by simp [Value.oneCell'])) rfl rfl (by unfold maxLen; omega) (by omega) ?_)
          intro a8 c8 w8 hG
          have HST : Hid (Stps w w8 m a8 (j + 1) c8 (S ++ [⟨q', ia, k, ic, I, some ⟨kb, 0, none⟩, 1, 1, [kq]⟩])) := Lib.hid (HG.out.whole HWH.out hq'.out hk12 HKM.out HKL.out hG)
          clear hG g0 g1 g2 lg8
          go_wp2_with fail
          go_roundw
          case rel => exact ⟨j + 1, a8, c8, _, rfl, by go_num, by omega, by omega, HST⟩
          case measure => simp [intOf]; omega
      · have h60' : ¬ (j : Int) < 60 := by omega
        obtain rfl : j = 60 := by omega
        go_wp2_with fail
        go_ret
        exact ⟨oa, 60, oc, rfl, Nat.le_refl _, S, HG.out⟩
    · have hlt' : ¬ (j : Int) < (n : Int) := by omega
      obtain rfl : j = n := by omega
      go_wp2_with fail
      go_ret
      exact ⟨oa, j, oc, rfl, hj60, S, HG.out⟩
end Go.Proofs.YtkplikpncpcjdaaDoor.xf

/-
  spec's TRRun.
-/
import Derived.Test.YtcjifjfcjimefaaDoorZXfTin
import Derived.Test.YtcjifjfcjimefaaDoorZXfItems
import Derived.Test.YtcjifjfcjimefaaDoorZXfTell
import Derived.Test.YtcjifjfcjimefaaDoorZXfLaw
namespace Go.Proofs.YtcjifjfcjimefaaDoor.xf
open Go.ChangeShapes Go.WideShapes Go.ChangeAt Go.RowKit Go.Proofs.YtcjifjfcjimefaaDoor.base Go.Proofs.YtcjifjfcjimefaaDoor.heap Go.Proofs.YtcjifjfcjimefaaDoor.rows Go.Proofs.YtcjifjfcjimefaaDoor.mapn
set_option linter.unusedVariables false

theorem runL_asc (l : List Stp) : Asc (runL l) := by
  have key : ∀ (l : List Stp) (L : List It), Asc L → Asc (l.foldl nxt L) := by
    intro l
    induction l with
    | nil => exact fun L h => h
    | cons s r ih =>
      intro L h
      refine ih _ ?_
      unfold nxt
      split
      · exact puts_asc h _
      · exact h
  exact key l [] List.Pairwise.nil
theorem trStep_of (a : Option Addr) (n cap m : Nat) (L : List It) (s : Stp) (w : World) (h : Lst w a n cap L) (hi : StIn w s) (ho : Okay m s) (h3 : s.op = 1 ∨ s.op = 3 ∨ s.op = 5) (hk : s.km = 1) (hn : n ≤ 900000) (hA : Asc L) :
    Calls Tryd.prog 18 #[.slice a n cap, .agg #[.int .i64 s.op, .slice s.ia s.im s.ic, .slice s.ka s.km s.kc], .bool true] w (Sted true w a L s) := by
  obtain ⟨op, ia, im, ic, I, ka, km, kc, K⟩ := s
  have hk' : km = 1 := hk
  subst hk'
  obtain ⟨h1, h2⟩ := hi
  have h1' : RS itc 2 w ia im ic I := h1
  have h2' : RL uv w ka 1 kc K := h2
  have hf : I.length ≤ 100 := ho.few
  have hl := h1'.2
  obtain ⟨key, rfl⟩ : ∃ key, K = [key] := by
    have := h2'.2
    match K, this with
    | [k], _ => exact ⟨k, rfl⟩
  obtain ⟨b, off, rfl, _⟩ := h2'.at (by omega)
  rcases (show op = 1 ∨ op = 3 ∨ op = 5 from h3) with rfl | rfl | rfl
  · exact trStep1 a n cap L ia im ic I b off kc key w h h2' hn h1' (by omega)
  · exact trStep3 true a n cap L ia im ic I b off kc key w h h2' (by omega) hA
  · exact trStep5 true a n cap L ia im ic I b off kc key w h h2' (by omega) hA
/-- in the course of the run -/
structure Tri (w wr : World) (l : List Stp) (j : Nat) (la : Option Addr) (ln lc : Nat) (oa : Option Addr) (oc : Nat) (As : List An) : Prop where
  lst : Lst wr la ln lc (runL (l.take j))
  out : OS 55 anc 3 wr oa j oc As
  ins : ∀ x ∈ As, AnIn wr x ∧ ∀ k, At x.a k → k < wr.heap.size ∧ ¬ At oa k
  apart : ∀ k, At oa k → ¬ At la k
  new : ∀ k, At oa k → w.heap.size ≤ k
  same : Same w wr
  ran : RanT (l.take j) As
  len : (runL (l.take j)).length ≤ j * 100
theorem Tri.step {w wr w2 w3 w4 w5 : World} {l : List Stp} {j m : Nat} {la la2 oa oa2 : Option Addr} {g ln lc ln2 lc2 oc oc2 : Nat} {As : List An} {s : Stp} {x : An} (h : Tri w wr l j la ln lc oa oc As) (hs : l[j]? = some s) (ho : Okay m s) (h2 : Same wr w2)
    (hL : Lst w3 la2 ln2 lc2 (nxt (runL (l.take j)) s)) (hnew : ∀ k, At la2 k → At la k ∨ w2.heap.size ≤ k) (hA : AnIn w3 x) (hS : SaysT (runL (l.take j)) s x) (hf : ∀ k, At x.a k → w2.heap.size ≤ k ∧ k < w3.heap.size) (h3 : Same w2 w3) (h4 : Only (fun k => k = g) w3 w4) (hgw : wr.heap.size ≤ g) (hg2 : g < w2.heap.size) {w6 : World} (h6 : Same w4 w6)
    (hG : Grew 55 3 w6 w5 oa oa2 1 (j + 1) oc oc2 (As.flatMap anc ++ anc x)) : Tri w w5 l (j + 1) la2 ln2 lc2 oa2 oc2 (As ++ [x]) := by
  have z1 := h2.size
  have z2 := h3.size
  have z3 := h4.size
  have z4 := hG.only.size
  have hoa : ∀ k, At oa k → k < wr.heap.size := h.out.1.lt
  have hla2 : ∀ k, At oa k → ¬ At la2 k := fun k hk e => by
    rcases hnew k e with h' | h'
    · exact h.apart k hk h'
    · have := hoa k hk; omega
  have z6 := h6.size
  have h24 : Same wr w6 := (new_only (h2.trans h3) h4 (fun k e => by have e' : k = g := e; omega)).trans h6
  have hfr : ∀ k, At oa2 k → At oa k ∨ w6.heap.size ≤ k := hG.fresh
  have hL4 : Lst w6 la2 ln2 lc2 (nxt (runL (l.take j)) s) := (hL.keep h4 (fun k hk e => by
    have e' : k = g := e
    rcases hnew k hk with h' | h'
    · have := h.lst.lt k h'; omega
    · omega)).still h6
  have hA4 : AnIn w6 x := (hA.keep h4 (fun k hk e => by have e' : k = g := e; have := (hf k hk).1; omega)).still h6
  have ht := take_snoc l j s hs
  refine ⟨?_, ⟨by rw [flat_snoc]; exact hG.own, by rw [List.length_append, h.out.2]; rfl⟩, fun y hy => ?_, fun k hk e => ?_, fun k hk => ?_, ?_, ?_, ?_⟩
  · rw [ht, runL_snoc]
    exact hL4.keep hG.only (fun k hk e => hla2 k e hk)
  · rcases List.mem_append.1 hy with hy | hy
    · obtain ⟨y1, y2⟩ := h.ins y hy
      refine ⟨(y1.still h24).keep hG.only (fun k hk => (y2 k hk).2), fun k hk => ⟨by have := (y2 k hk).1; omega, fun e => ?_⟩⟩
      rcases hfr k e with h' | h'
      · exact (y2 k hk).2 h'
      · have := (y2 k hk).1; omega
    · rw [List.mem_singleton] at hy
      subst hy
      refine ⟨hA4.keep hG.only (fun k hk e => by have := hoa k e; have := (hf k hk).1; omega), fun k hk => ⟨by have := (hf k hk).2; omega, fun e => ?_⟩⟩
      rcases hfr k e with h' | h'
      · have := hoa k h'; have := (hf k hk).1; omega
      · have := (hf k hk).2; omega
  · rcases hfr k hk with h' | h'
    · exact hla2 k h' e
    · have := hL4.lt k e; omega
  · rcases hfr k hk with h' | h'
    · exact h.new k h'
    · have := h.same.size; omega
  · exact new_only (h.same.trans h24) hG.only h.new
  · rw [ht]
    exact h.ran.snoc hS
  · rw [ht, runL_snoc]
    have := nxt_le (runL (l.take j)) s
    have := h.len
    have := ho.few
    omega
/-- what TRRun says -/
def TrSaid (w : World) (n : Nat) (l : List Stp) (e : Ending) (w' : World) : Prop :=
  ∃ (oa : Option Addr) (oc : Nat) (As : List An), e = .returned (.slice oa n oc) ∧ RS anc 3 w' oa n oc As ∧ (∀ x ∈ As, AnIn w' x) ∧ RanT l As ∧ Same w w'
set_option maxRecDepth 100000 in
set_option maxHeartbeats 1600000 in
theorem trRun_of (w : World) (m : Nat) (a : Option Addr) (n cap : Nat) (l : List Stp) (hR : RS stc 3 w a n cap l) (hn : n ≤ 1000) (ho : ∀ s ∈ l, Okay m s ∧ s.km = 1 ∧ StIn w s ∧ (s.op = 1 ∨ s.op = 3 ∨ s.op = 5)) : Calls Tryd.prog 10 #[.slice a n cap, .bool true] w (TrSaid w n l) := by
  have HR := Lib.hid hR
  have HO := Lib.hid ho
  have bd := hR.bound
  have hln := hR.2
  have HN0 : Hid (Tri w w l 0 none 0 0 none 0 []) := Lib.hid ⟨⟨RS.nil _ _ _, fun _ => ⟨rfl, rfl⟩, fun k h => h.elim⟩, OS.nil _ _ _ _, fun x h => (nomatch h), fun k h => h.elim, fun k h => h.elim, Only.refl _ _, ⟨rfl, fun i s x h => by simp at h⟩, Nat.zero_le _⟩
  clear hR ho
  go_enter Tryd.func10, Tryd.ntmps10
  go_wp2_with fail
  go_loopw [5, 6, 7] (fun lv ov iv wr => ∃ (j : Nat) (la : Option Addr) (ln lc : Nat) (oa : Option Addr) (oc : Nat) (As : List An), lv = .slice la ln lc ∧ ov = .slice oa j oc ∧ iv = .int .i64 (j : Int) ∧ j ≤ n ∧ ln ≤ j * 100 ∧ Hid (Tri w wr l j la ln lc oa oc As)) (fun _ _ iv _ => n - (intOf iv).toNat)
  case atStart => exact ⟨0, none, 0, 0, none, 0, [], rfl, rfl, rfl, Nat.zero_le _, Nat.zero_le _, HN0⟩
  case round =>
    clear HN0
    obtain ⟨j, la, ln, lc, oa, oc, As, rfl, rfl, rfl, hj, hl100, HG⟩ := hrel
    have hbo := HG.out.out.bound
    by_cases hlt : j < n
    · have hlt' : (j : Int) < (n : Int) := by omega
      obtain ⟨s, hs⟩ := HR.out.get hlt
      obtain ⟨b, off, ha, hb, hc⟩ := (HR.out.still HG.out.same).at stc_len (by omega)
      have hc2 := hc j s hs
      have c0 : wr.cell? ⟨b, off + j * 3, none⟩ = some (.int .i64 s.op) := hc2 0 _ rfl
      have c1 : wr.cell? ⟨b, off + j * 3 + 1, none⟩ = some (.slice s.ia s.im s.ic) := hc2 1 _ rfl
      have c2 : wr.cell? ⟨b, off + j * 3 + 2, none⟩ = some (.slice s.ka s.km s.kc) := hc2 2 _ rfl
      have HY := Lib.hid hs
      have hO := HO.out s (List.mem_of_getElem? hs)
      have HOK := Lib.hid hO.1
      have HST : Hid (∀ wx, Same wr wx → Calls Tryd.prog 18 #[.slice la ln lc, .agg #[.int .i64 s.op, .slice s.ia s.im s.ic, .slice s.ka s.km s.kc], .bool true] wx (Sted true wx la (runL (l.take j)) s)) := Lib.hid (fun wx hx => trStep_of la ln lc m _ s wx (HG.out.lst.still hx) ((hO.2.2.1.still HG.out.same).still hx) hO.1 hO.2.2.2 hO.2.1 (by omega) (runL_asc _))
      subst ha
      clear hc hc2 hs hO
      go_wp2_with fail
      refine (HST.out _ ((Only.refl _ _).alloc _)).mono ?_
      rintro e w3 ⟨la2, ln2, lc2, x, rfl, hL2, hnew, hA, hS, hf, hs3⟩
      rw [show (anc x).toArray = #[.slice x.a x.n x.cap, .int .u64 (x.num : Int), .bool x.yes] from rfl]
      obtain ⟨g, hg⟩ : ∃ g, wr.heap.size = g := ⟨_, rfl⟩
      have hb2 : (wr.alloc (.cells #[.slice none 0 0, .int .u64 0, .bool false] 55)).heap[g]? = some (.cells #[.slice none 0 0, .int .u64 0, .bool false] 55 (0, 0)) := by rw [← hg]; exact heap_alloc_new _ _
      have hb3 := hs3.obj hb2 id
      have x0 : w3.cell? ⟨g, 0, none⟩ = some (.slice none 0 0) := block_cell hb3 rfl
      have x1 : w3.cell? ⟨g, 1, none⟩ = some (.int .u64 0) := block_cell hb3 rfl
      have x2 : w3.cell? ⟨g, 2, none⟩ = some (.bool false) := block_cell hb3 rfl
      have xf : ∀ i, w3.frozen? ⟨g, i, none⟩ = false := fun i => block_free hb3
      have lg := lt_of_heap hb3
      have HS : Hid (SaysT (runL (l.take j)) s x) := Lib.hid (fun h1 => hS (fun e => absurd e h1))
      have HB3 := Lib.hid hb3
      have HL2 := Lib.hid hL2
      have HNW := Lib.hid hnew
      have HA := Lib.hid hA
      have HF := Lib.hid hf
      have HS3 := Lib.hid hs3
      have HG2 := Lib.hid hg
      rw [hg]
      have hl2 : ln2 ≤ (j + 1) * 100 := by
        have h1 := hL2.row.2
        have h2 := nxt_le (runL (l.take j)) s
        have h3 := HG.out.len
        have h4 := HOK.out.few
        omega
      clear hb2 hb3 hS hL2 hnew hA hf hs3 hg HST c0 c1 c2
      go_upto_region 8 with fail
      obtain ⟨w4, hw4⟩ : ∃ w4, (((w3.setCell ⟨g, 0, none⟩ (.slice x.a x.n x.cap)).setCell ⟨g, 1, none⟩ (.int .u64 (x.num : Int))).setCell ⟨g, 2, none⟩ (.bool x.yes)) = w4 := ⟨_, rfl⟩
      have hO4 : Only (fun k => k = g) w3 w4 := by rw [← hw4]; exact ((((Only.refl (fun k => k = g) w3).setCell ⟨g, 0, none⟩ _ (fun _ => rfl)).setCell ⟨g, 1, none⟩ _ (fun _ => rfl)).setCell ⟨g, 2, none⟩ _ (fun _ => rfl))
      have hb4 : w4.heap[g]? = some (.cells #[.slice x.a x.n x.cap, .int .u64 (x.num : Int), .bool x.yes] 55 (0, 0)) := by
        rw [← hw4]
        exact setCell_heap (setCell_heap (setCell_heap HB3.out 0 _) 1 _) 2 _
      rw [hw4]
      clear hw4 x0 x1 x2 xf lg
      have y0 : w4.cell? ⟨g, 0, none⟩ = some (.slice x.a x.n x.cap) := block_cell hb4 rfl
      have y1 : w4.cell? ⟨g, 1, none⟩ = some (.int .u64 (x.num : Int)) := block_cell hb4 rfl
      have y2 : w4.cell? ⟨g, 2, none⟩ = some (.bool x.yes) := block_cell hb4 rfl
      have lg4 := lt_of_heap hb4
      have HW : Hid (Same wr w4 ∧ Only (fun k => k = g) w3 w4) := Lib.hid ⟨new_only (((Only.refl (fun _ => False) wr).alloc _).trans HS3.out (fun _ _ h => h)) hO4 (fun k e => by have e' : k = g := e; have := HG2.out; omega), hO4⟩
      clear hO4 hb4
      go_wp2_with (at_builtin; refine wpList_append (j + 1) (As.flatMap anc ++ anc x) rfl _ _ _ _ rfl slAn rfl (HG.out.out.1.keep (S := fun _ => False) (HW.out.1.alloc _) (fun _ _ => id)) rfl (Src.row (size := 3) (cs := #[.slice x.a x.n x.cap, .int .u64 (x.num : Int), .bool x.yes]) (t := 55) (fr := (0, 0)) Tryd.underlying29 (by exact heap_alloc_new' _ _ _ (by simp)) 1 1 rfl (by simp [Value.oneCell'])) rfl rfl (by unfold maxLen; omega) (by omega) ?_)
      intro oa2 oc2 w5 hG
      have HN : Hid (Tri w w5 l (j + 1) la2 ln2 lc2 oa2 oc2 (As ++ [x])) := Lib.hid (HG.out.step (g := g) HY.out HOK.out ((Only.refl _ _).alloc _) HL2.out HNW.out HA.out HS.out HF.out HS3.out HW.out.2 (by have := HG2.out; omega) (by have := HG2.out; simp; omega) ((Only.refl _ _).alloc _) hG)
      clear hG y0 y1 y2 lg4
      go_wp2_with fail
      go_roundw
      case rel => exact ⟨j + 1, la2, ln2, lc2, oa2, oc2, As ++ [x], rfl, rfl, by go_num, by omega, by omega, HN⟩
      case measure => simp [intOf]; omega
    · have hlt' : ¬ (j : Int) < (n : Int) := by omega
      obtain rfl : j = n := by omega
      go_wp2_with fail
      go_ret
      refine ⟨oa, oc, As, rfl, HG.out.out.rs, fun x hx => (HG.out.ins x hx).1, ?_, HG.out.same⟩
      have := HG.out.ran
      rwa [List.take_of_length_le (by rw [HR.out.2]; exact Nat.le_refl _)] at this
end Go.Proofs.YtcjifjfcjimefaaDoor.xf

/-
  GROf of the specification; slices.Equal.
-/
import Derived.Test.YtpccodjmjgfloaaDoorGrSpec
import Derived.Deep.RegionLaw
namespace Go.Proofs.YtpccodjmjgfloaaDoor.gr
open Go.RowKit Go.Proofs.YtpccodjmjgfloaaDoor.base Go.Proofs.YtpccodjmjgfloaaDoor.heap Go.Proofs.YtpccodjmjgfloaaDoor.rows Go.Proofs.YtpccodjmjgfloaaDoor.mapi
set_option linter.unusedVariables false

theorem step_append' {P : Program} {e : TypeId} {w : World} {a0 : Option Addr} {n cap : Nat} {xs : List Value} {ops : Array Oper} {o : Oper} {fr : Act} {K : Act → World → Prop} {Q : Exit → Act → World → Prop} {E : Prop} (N : Nat) (XS : List Value) (hg : o.guard = none) (s x : Operand) (t tx : TypeId)
    (hop : o.op = .call { callee := .builtin .append, args := #[s, x], argTypes := #[t, tx] }) {bytes : Nat} (hT : SliceOf P t e 1 bytes)
    (hs : fr.eval s = .slice a0 n cap) (hown : Own e 1 w a0 n cap xs) {v : Value} {m : Nat} {news : List Value} (hx : fr.eval x = v) (hsrc : Src P 1 tx v m news w)
    (hN : n + m = N) (hX : xs ++ news = XS) (h63 : N ≤ maxLen) (hbytes : N * bytes ≤ 140737488355328)
    (hK : ∀ a' cap' w', Grew e 1 w w' a0 a' m N cap cap' XS → K (fr.put o.dst (.slice a' N cap')) w') :
    if Region.wanted o (yielded ops fr.tmps) = true then Oper.wp P o fr w K Q else E := by
  have hw : Region.wanted o (yielded ops fr.tmps) = true := by simp [Region.wanted, hg]
  rw [if_pos hw]
  subst hN
  subst hX
  obtain ⟨ht, i, z, hi, hz, hsize, hby, hzs⟩ := hT
  obtain ⟨a', cap', w', hr, h1, h2, h3, h4, h5⟩ := run_append (P := P) (ty := o.type) ht hi hz hsize hby hzs hown hsrc h63 hbytes
  unfold Oper.wp execOp
  simp only [hop, resolve, invoke, builtin, Sem.run_bind, Sem.run_pure, Result.andThen_ok, List.map_toArray, List.map_cons, List.map_nil, hs, hx, hr]
  exact hK _ _ _ ⟨h1, h2, h3, h4, h5⟩

def Q.step (q : Q) (p : Ed) : Q := ⟨qV q.V q.E p.1 p.2, qE q.E p.1 p.2, q.es ++ [(qerr q.E p.1 p.2 : Int)]⟩
def qOf (l : List Ed) : Q := l.foldl Q.step ⟨[], [], []⟩
theorem qOf_take (l : List Ed) (k : Nat) (p : Ed) (h : l[k]? = some p) : qOf (l.take (k + 1)) = (qOf (l.take k)).step p := by
  unfold qOf; rw [take_snoc l k p h, List.foldl_append]; rfl
theorem qV_len (V : List Int) (E : List Ed) (v x : Int) : (qV V E v x).length ≤ V.length + 2 := by
  unfold qV; split
  · have := st.withL_len V [v, x]; simpa using this
  · omega
theorem qE_len (E : List Ed) (v x : Int) : (qE E v x).length ≤ E.length + 1 := by
  unfold qE; split <;> simp
theorem qOf_len (l : List Ed) (k : Nat) (hk : k ≤ l.length) : (qOf (l.take k)).V.length ≤ 2 * k ∧ (qOf (l.take k)).E.length ≤ k ∧ (qOf (l.take k)).es.length = k := by
  induction k with
  | zero => exact ⟨Nat.le_refl _, Nat.le_refl _, rfl⟩
  | succ k ih =>
    obtain ⟨h1, h2, h3⟩ := ih (by omega)
    rw [qOf_take l k _ (List.getElem?_eq_getElem (show k < l.length by omega))]
    refine ⟨?_, ?_, by simp [Q.step, h3]⟩
    · have := qV_len (qOf (l.take k)).V (qOf (l.take k)).E l[k].1 l[k].2
      show (qV _ _ _ _).length ≤ _
      omega
    · have := qE_len (qOf (l.take k)).E l[k].1 l[k].2
      show (qE _ _ _).length ≤ _
      omega

def MadeS (q : Q) (n : Nat) (w : World) (e : Ending) (w' : World) : Prop :=
  ∃ va vc ea ec sa sc, e = .returned (.tuple #[.agg #[.slice va q.V.length vc, .slice ea q.E.length ec], .slice sa n sc]) ∧ (q.V.length ≤ vc ∧ vc ≤ 9223372036854775807) ∧ (q.E.length ≤ ec ∧ ec ≤ 9223372036854775807) ∧ RL iv w' sa n sc q.es ∧ Same w w'

set_option maxRecDepth 100000 in
set_option maxHeartbeats 3200000 in
theorem grOfS (a : Option Addr) (n cap : Nat) (l : List Ed) (w : World) (h : RE w a n cap l) (hn : n ≤ 100) :
    Calls Tryd.prog 6 #[.slice a n cap] w (MadeS (qOf l) n w) := by
  have hbd := h.1.bound
  have HR := Lib.hid h
  clear h
  obtain ⟨W, hW⟩ : ∃ W, W = (w.alloc (.cells #[.slice none 0 0, .slice none 0 0] 27)).alloc (.cells #[.slice none 0 0, .slice none 0 0] 27) := ⟨_, rfl⟩
  obtain ⟨g, hg⟩ : ∃ g, g = w.heap.size := ⟨_, rfl⟩
  have HSW : Hid (Same w W) := Lib.hid (by rw [hW]; exact ((Only.refl _ w).alloc _).alloc _)
  have HB2 : Hid (W.heap[g]? = some (.cells #[.slice none 0 0, .slice none 0 0] 27 (0, 0))) := Lib.hid (by rw [hW, hg]; exact old_block _ _ _)
  have HB4 : Hid (W.heap[g + 1]? = some (.cells #[.slice none 0 0, .slice none 0 0] 27 (0, 0))) := Lib.hid (by rw [hW, hg]; exact new_block2 _ _ _)
  have HGW : Hid (w.heap.size ≤ g ∧ W.heap.size = g + 1 + 1) := Lib.hid ⟨by omega, by rw [hW, hg]; simp⟩
  go_enter Tryd.func6, Tryd.ntmps6
  go_upto_region 3 with fail
  rw [← hW, ← hg]
  clear hW hg
  go_wp2_with fail
  go_loopw [5, 12] (fun out i wr => ∃ (k : Nat) (va : Option Addr) (vn vc : Nat) (ea : Option Addr) (en ec : Nat) (sa : Option Addr) (sc : Nat), k ≤ n ∧ i = .int .i64 (k : Int) ∧ out = .slice sa k sc ∧ wr.heap[g + 1]? = some (.cells #[.slice va vn vc, .slice ea en ec] 27 (0, 0)) ∧
    RL iv wr va vn vc (qOf (l.take k)).V ∧ RE wr ea en ec (qOf (l.take k)).E ∧ OL 3 iv wr sa k sc (qOf (l.take k)).es ∧ Only (fun j => j = g + 1) W wr ∧ (∀ j, At va j → W.heap.size ≤ j ∧ j < wr.heap.size ∧ ¬ At sa j) ∧ (∀ j, At ea j → W.heap.size ≤ j ∧ j < wr.heap.size ∧ ¬ At sa j) ∧ ∀ j, At sa j → W.heap.size ≤ j) (fun _ i _ => n - (intOf i).toNat)
  case atStart => exact ⟨0, none, 0, 0, none, 0, 0, none, 0, Nat.zero_le _, rfl, rfl, HB4.out, RL.nil _ _, ⟨Rd.nil _ 2, rfl⟩, OL.nil _ _ _, Only.refl _ _, fun j hj => hj.elim, fun j hj => hj.elim, fun j hj => hj.elim⟩
  case round =>
    obtain ⟨k, va, vn, vc, ea, en, ec, sa, sc, hk, rfl, rfl, hb4, hV, hE, hown, hO, hva, hea, hsa⟩ := hrel
    have hbo := hown.bound
    have hbv := hV.bound
    have hbe := hE.1.bound
    have hlen := qOf_len l k (by have := HR.out.2; omega)
    have hvn : vn ≤ 100000 := by have := hV.2; omega
    have hen : en ≤ 100000 := by have := hE.2; omega
    have HB4r := Lib.hid hb4
    have HV := Lib.hid hV
    have HE := Lib.hid hE
    have HOWN := Lib.hid hown
    have HO := Lib.hid hO
    have HVA := Lib.hid hva
    have HEA := Lib.hid hea
    have HSA := Lib.hid hsa
    have HSwr : Hid (Same w wr) := Lib.hid (new_only HSW.out hO (fun j hj => by have := HGW.out.1; omega))
    have x0 : wr.cell? ⟨g + 1, 0, none⟩ = some (.slice va vn vc) := block_cell hb4 rfl
    have x1 : wr.cell? ⟨g + 1, 1, none⟩ = some (.slice ea en ec) := block_cell hb4 rfl
    clear hb4 hV hE hown hO hva hea hsa hlen
    by_cases hlt : k < n
    · have hlt' : (k : Int) < (n : Int) := by omega
      obtain ⟨b, off, rfl, hb, hc⟩ := (HR.out.still HSwr.out).at (by omega)
      obtain ⟨s, hs⟩ := HR.out.get hlt
      obtain ⟨v, x⟩ := s
      obtain ⟨c0, c1⟩ := hc k _ hs
      simp only at c0 c1
      have HT := Lib.hid (qOf_take l k (v, x) hs)
      have HADD : Hid (∀ wx, Same wr wx → Calls Tryd.prog 14 #[.agg #[.slice va vn vc, .slice ea en ec], .agg #[.int .i64 v, .int .i64 x]] wx (Added (qOf (l.take k)).V (qOf (l.take k)).E v x va ea wx)) := Lib.hid (fun wx hx => addS va vn vc _ ea en ec _ v x wx (HV.out.still hx) (HE.out.still hx) hvn hen)
      have hg1 : g + 1 < wr.heap.size := lt_of_heap HB4r.out
      clear hc hs
      go_wp2_with fail
      refine (HADD.out _ ((Only.refl _ _).alloc _)).mono ?_
      rintro e w3 ⟨va', vn', vc', ea', en', ec', rfl, hV', hE', hS', hva', hea'⟩
      have hbv' := hV'.bound
      have hbe' := hE'.1.bound
      have HS3 : Hid (Same wr w3) := Lib.hid (Same.trans ((Only.refl _ wr).alloc _) hS')
      generalize hqq : qerr (qOf (l.take k)).E v x = q at *
      have HV3 := Lib.hid hV'
      have HE3 := Lib.hid hE'
      have HFV : Hid (∀ j, At va' j → W.heap.size ≤ j ∧ j < w3.heap.size ∧ ¬ At sa j) := Lib.hid (fun j hj => (hva' j hj).elim (fun h => by have := HVA.out j h; have := HS3.out.size; exact ⟨(HVA.out j h).1, by have := HVA.out j h; omega, (HVA.out j h).2.2⟩) (fun h => ⟨by have := h.1; simp at this; have := HO.out.size; omega, h.2, fun hs => by have := HOWN.out.1.lt j hs; have := h.1; simp at this; omega⟩))
      have HFE : Hid (∀ j, At ea' j → W.heap.size ≤ j ∧ j < w3.heap.size ∧ ¬ At sa j) := Lib.hid (fun j hj => (hea' j hj).elim (fun h => by have := HEA.out j h; have := HS3.out.size; exact ⟨(HEA.out j h).1, by have := HEA.out j h; omega, (HEA.out j h).2.2⟩) (fun h => ⟨by have := h.1; simp at this; have := HO.out.size; omega, h.2, fun hs => by have := HOWN.out.1.lt j hs; have := h.1; simp at this; omega⟩))
      have HTE : Hid ((qOf (l.take (k + 1))).es = (qOf (l.take k)).es ++ [(q : Int)] ∧ (qOf (l.take (k + 1))).V = qV (qOf (l.take k)).V (qOf (l.take k)).E v x ∧ (qOf (l.take (k + 1))).E = qE (qOf (l.take k)).E v x) := Lib.hid (by rw [HT.out, ← hqq]; exact ⟨rfl, rfl, rfl⟩)
      have HB4s : Hid (w3.heap[g + 1]? = some (.cells #[.slice va vn vc, .slice ea en ec] 27 (0, 0))) := Lib.hid (heap_still HS3.out HB4r.out)
      have HOW3 : Hid (OL 3 iv w3 sa k sc (qOf (l.take k)).es) := Lib.hid (HOWN.out.still HS3.out)
      clear hV' hE' hS' hva' hea' hqq HADD x0 x1 c0 c1
      generalize (qOf (l.take k)).es = es at *
      obtain ⟨W4, hW4⟩ : ∃ W4, W4 = w3.alloc (.cells #[.slice va' vn' vc', .slice ea' en' ec'] 27) := ⟨_, rfl⟩
      obtain ⟨g8, hg8⟩ : ∃ g8, g8 = w3.heap.size := ⟨_, rfl⟩
      have HS34 : Hid (Same w3 W4) := Lib.hid (by rw [hW4]; exact (Only.refl _ _).alloc _)
      have HB8 : Hid (W4.heap[g8]? = some (.cells #[.slice va' vn' vc', .slice ea' en' ec'] 27 (0, 0))) := Lib.hid (by rw [hW4, hg8]; exact heap_alloc_new _ _)
      have HGE : Hid (g8 = w3.heap.size ∧ W4.heap.size = g8 + 1) := Lib.hid ⟨hg8, by rw [hW4, hg8]; simp⟩
      have HB4t := Lib.hid (heap_still HS34.out HB4s.out)
      have HOW4 : Hid (OL 3 iv W4 sa k sc es) := Lib.hid (HOW3.out.still HS34.out)
      have HLS : Hid (∀ j, At sa j → j < g8 ∧ j ≠ g + 1) := Lib.hid (fun j hj => ⟨by have := HOW3.out.1.lt j hj; omega, fun e => by have := HSA.out j hj; have := HGW.out.2; omega⟩)
      have HK8 : Hid (∀ wx, Only (fun j => j = g + 1 ∨ At sa j) W4 wx → wx.cell? ⟨g8, 0, none⟩ = some (.slice va' vn' vc') ∧ wx.cell? ⟨g8, 1, none⟩ = some (.slice ea' en' ec')) := Lib.hid (fun wx hx => by
        have hne : ¬ (g8 = g + 1 ∨ At sa g8) := fun h => h.elim (fun e => by have := HS3.out.size; omega) (fun h => by have := (HLS.out _ h).1; omega)
        exact ⟨block_cell (hx.obj HB8.out hne) rfl, block_cell (hx.obj HB8.out hne) rfl⟩)
      obtain ⟨y0, y1⟩ := HK8.out W4 (Only.refl _ _)
      go_upto_region 7 with fail
      rw [← hW4, ← hg8]
      clear hW4 hg8
      go_region_held3 (fun w' => w'.cell? ⟨g8, 0, none⟩ = some (.slice va' vn' vc') ∧ w'.cell? ⟨g8, 1, none⟩ = some (.slice ea' en' ec'))
        (exact HK8.out _ (by with_reducible repeat (first | exact Only.refl _ _ | apply Only.alloc | apply Only.drew | (refine Only.setCell ?_ _ _ (fun _ => Or.inl rfl)) | (refine Only.trans ?_ hO9 (fun _ _ h => Or.inr h)))))
        ((refine step_append' (k + 1) (es.map iv ++ [iv (q : Int)]) (by rfl) _ _ _ _ (by rfl) slI (by rfl) (HOW4.out.1.keep (S := fun _ => False) (by with_reducible repeat (first | exact Only.refl _ _ | apply Only.alloc | apply Only.drew)) (fun _ _ => id)) (by rfl) (Src.row (size := 1) (cs := #[.int .i64 (q : Int)]) (t := 3) (fr := (0, 0)) Tryd.underlying23 (by exact heap_alloc_new W4 _) 1 1 rfl (by simp [Value.oneCell'])) rfl rfl (by unfold maxLen; omega) (by omega) ?_; intro sa2 sc2 w9 hG; have hO9 : Only (At sa) W4 w9 := Only.trans (S := At sa) (by with_reducible repeat (first | exact Only.refl _ _ | apply Only.alloc | apply Only.drew)) hG.only (fun _ _ h => h); have B9 : w9.heap[g + 1]? = some (.cells #[.slice va vn vc, .slice ea en ec] 27 (0, 0)) := hO9.obj HB4t.out (fun h => (HLS.out _ h).2 rfl); have p0 : w9.cell? ⟨g + 1, 0, none⟩ = some (.slice va vn vc) := block_cell B9 rfl; have p1 : w9.cell? ⟨g + 1, 1, none⟩ = some (.slice ea en ec) := block_cell B9 rfl; have u0 : w9.frozen? ⟨g + 1, 0, none⟩ = false := block_free B9; have u1 : w9.frozen? ⟨g + 1, 1, none⟩ = false := block_free B9))
      all_goals
        have HG := Lib.hid hG
        have HO9 := Lib.hid hO9
        have HB9 := Lib.hid B9
        clear hG hO9 B9 p0 p1 u0 u1 y0 y1 HK8
        obtain ⟨Wf, hWf⟩ : ∃ Wf, Wf = (w9.setCell ⟨g + 1, 0, none⟩ (.slice va' vn' vc')).setCell ⟨g + 1, 1, none⟩ (.slice ea' en' ec') := ⟨_, rfl⟩
        rw [← hWf]
        have HBf : Hid (Wf.heap[g + 1]? = some (.cells #[.slice va' vn' vc', .slice ea' en' ec'] 27 (0, 0))) := Lib.hid (by rw [hWf]; exact setCell_heap (setCell_heap HB9.out 0 _) 1 _)
        have HOf : Hid (Only (fun j => j = g + 1) w9 Wf) := Lib.hid (by rw [hWf]; exact ((Only.refl (fun j => j = g + 1) _).setCell ⟨g + 1, 0, none⟩ _ (fun _ => rfl)).setCell ⟨g + 1, 1, none⟩ _ (fun _ => rfl))
        have HFS : Hid (∀ j, At sa2 j → W.heap.size ≤ j) := Lib.hid (fun j hj => by
          rcases HG.out.fresh j hj with h | h
          · exact HSA.out j h
          · have h1 : W4.heap.size ≤ j := by simp at h; omega
            have := HO.out.size; have := HS3.out.size; have := HGE.out; omega)
        have HRELF : Hid (RL iv Wf va' vn' vc' (qV (qOf (l.take k)).V (qOf (l.take k)).E v x) ∧ RE Wf ea' en' ec' (qE (qOf (l.take k)).E v x) ∧ OL 3 iv Wf sa2 (k + 1) sc2 (es ++ [(q : Int)]) ∧ Only (fun j => j = g + 1) W Wf) := Lib.hid (by
          have hwg := HGW.out.2
          have ho : Only (fun j => j = g + 1 ∨ At sa j) W4 Wf := Only.trans (HO9.out.mono (fun _ _ h => .inr h)) HOf.out (fun _ _ h => .inl h)
          refine ⟨(HV3.out.still HS34.out).keep ho (fun j hj h => ?_), ⟨(HE3.out.still HS34.out).1.keep ho (fun j hj h => ?_), HE3.out.2⟩, ⟨?_, by rw [List.length_append, HOW3.out.2]; rfl⟩, ?_⟩
          · have h1 := HFV.out j hj
            rcases h with h | h
            · omega
            · exact h1.2.2 h
          · have h1 := HFE.out j hj
            rcases h with h | h
            · omega
            · exact h1.2.2 h
          · have h1 := HG.out.own.keep HOf.out (fun j hj e => by have := HFS.out j hj; omega)
            rwa [List.map_append]
          · exact Only.trans (Only.trans (Only.trans (Only.trans HO.out HS3.out (fun _ _ f => f.elim)) HS34.out (fun _ _ f => f.elim)) HO9.out (fun j hj h => by have := HSA.out j h; omega)) HOf.out (fun _ _ h => h))
        have HFV2 : Hid (∀ j, At va' j → W.heap.size ≤ j ∧ j < Wf.heap.size ∧ ¬ At sa2 j) := Lib.hid (fun j hj => by
          have h1 := HFV.out j hj
          have s1 := HS34.out.size
          have s2 := HO9.out.size
          have s3 := HOf.out.size
          refine ⟨h1.1, by omega, fun h => ?_⟩
          rcases HG.out.fresh j h with h | h
          · exact h1.2.2 h
          · have : W4.heap.size ≤ j := by simp at h; omega
            omega)
        have HFE2 : Hid (∀ j, At ea' j → W.heap.size ≤ j ∧ j < Wf.heap.size ∧ ¬ At sa2 j) := Lib.hid (fun j hj => by
          have h1 := HFE.out j hj
          have s1 := HS34.out.size
          have s2 := HO9.out.size
          have s3 := HOf.out.size
          refine ⟨h1.1, by omega, fun h => ?_⟩
          rcases HG.out.fresh j h with h | h
          · exact h1.2.2 h
          · have : W4.heap.size ≤ j := by simp at h; omega
            omega)
        clear hWf
        go_wp2_with fail
        go_roundw
        case rel =>
          obtain ⟨r1, r2, r3, r4⟩ := HRELF.out
          obtain ⟨t1, t2, t3⟩ := HTE.out
          exact ⟨k + 1, va', vn', vc', ea', en', ec', sa2, sc2, by omega, by go_num, rfl, HBf.out, by rw [t2]; exact r1, by rw [t3]; exact r2, by rw [t1]; exact r3, r4, HFV2.out, HFE2.out, HFS.out⟩
        case measure => simp [intOf]; omega
    · obtain rfl : k = n := by omega
      have HE' : Hid (l.take k = l) := Lib.hid (List.take_of_length_le (by rw [HR.out.2]; exact Nat.le_refl _))
      rw [HE'.out] at HV HE HOWN
      have hvn' : vn = (qOf l).V.length := HV.out.2.symm
      have hen' : en = (qOf l).E.length := HE.out.2.symm
      have HNN := Lib.hid (And.intro hvn' hen')
      clear hvn' hen'
      have hgg : g ≠ g + 1 := by omega
      have HB2r := Lib.hid (HO.out.obj HB2.out hgg)
      have m0 : wr.cell? ⟨g, 0, none⟩ = some (.slice none 0 0) := block_cell HB2r.out rfl
      have m1 : wr.cell? ⟨g, 1, none⟩ = some (.slice none 0 0) := block_cell HB2r.out rfl
      have n0 : wr.frozen? ⟨g, 0, none⟩ = false := block_free HB2r.out
      have n1 : wr.frozen? ⟨g, 1, none⟩ = false := block_free HB2r.out
      go_wp2_with fail
      obtain ⟨Wf, hWf⟩ : ∃ Wf, Wf = (wr.setCell ⟨g, 0, none⟩ (.slice va vn vc)).setCell ⟨g, 1, none⟩ (.slice ea en ec) := ⟨_, rfl⟩
      rw [← hWf]
      have hBf : Wf.heap[g]? = some (.cells #[.slice va vn vc, .slice ea en ec] 27 (0, 0)) := by rw [hWf]; exact setCell_heap (setCell_heap HB2r.out 0 _) 1 _
      have hOf : Only (fun j => j = g) wr Wf := by rw [hWf]; exact ((Only.refl (fun j => j = g) _).setCell ⟨g, 0, none⟩ _ (fun _ => rfl)).setCell ⟨g, 1, none⟩ _ (fun _ => rfl)
      have hSf : Same w Wf := new_only HSwr.out hOf (fun j hj => by have := HGW.out.1; omega)
      have r0 : Wf.cell? ⟨g, 0, none⟩ = some (.slice va vn vc) := block_cell hBf rfl
      have r1 : Wf.cell? ⟨g, 1, none⟩ = some (.slice ea en ec) := block_cell hBf rfl
      have hes : RL iv Wf sa k sc (qOf l).es := (HOWN.out.keep hOf (fun j hj e => by have := HSA.out j hj; have := HGW.out.2; omega)).rl
      clear hWf hBf hOf
      refine bodyPost_ret (v := .tuple #[.agg #[.slice va vn vc, .slice ea en ec], .slice sa k sc]) ?_ rfl ?_
      · simp [results, Tryd.results6, go_sem, r0, r1]
      · obtain ⟨q1, q2⟩ := HNN.out
        exact ⟨va, vc, ea, ec, sa, sc, by rw [← q1, ← q2], by omega, by omega, hes, hSf⟩
end Go.Proofs.YtpccodjmjgfloaaDoor.gr

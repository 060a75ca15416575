/-
  YFRun: the walk. (Printed by gen_run.py.)
-/
import Derived.Test.YtcjifjfcjimefaaDoorZYSaid
import Derived.Test.YtcjifjfcjimefaaDoorZXfTell
namespace Go.Proofs.YtcjifjfcjimefaaDoor.yf
open Go.RowKit Go.Proofs.YtcjifjfcjimefaaDoor.base Go.Proofs.YtcjifjfcjimefaaDoor.heap Go.Proofs.YtcjifjfcjimefaaDoor.rows Go.Proofs.YtcjifjfcjimefaaDoor.mapn
open Go.Proofs.YtcjifjfcjimefaaDoor.xf hiding Own Tr Tr.keep Tr.still insertC getC lenC insertsC newC PutP Gone FreshP
set_option linter.unusedVariables false

/-- what a step does -/
def StepR (wr : World) (tb : Nat) (O : Nat → Prop) (L : List It) (m : Nat) (s : Stp) (x : An) (w3 : World) : Prop :=
  ∃ O', Tr w3 tb O' (nxt L s) m ∧ Only O wr w3 ∧ (∀ k, O' k → O k ∨ wr.heap.size ≤ k) ∧ SaysT L s x ∧ AnIn w3 x ∧ ∀ k, At x.a k → wr.heap.size ≤ k ∧ k < w3.heap.size ∧ ¬ O' k
/-- in the course of the run -/
structure Inv (w wr : World) (tb m : Nat) (O : Nat → Prop) (l : List Stp) (oa : Option Addr) (k oc : Nat) (As : List An) : Prop where
  tr : Tr wr tb O (runL (l.take k)) m
  out : OS 55 anc 3 wr oa k oc As
  ins : ∀ x ∈ As, AnIn wr x ∧ ∀ j, At x.a j → w.heap.size ≤ j ∧ j < wr.heap.size ∧ ¬ O j ∧ ¬ At oa j
  new : ∀ j, O j ∨ At oa j → w.heap.size ≤ j
  apart : ∀ j, At oa j → ¬ O j
  same : Same w wr
  ran : RanT (l.take k) As
  len : (runL (l.take k)).length ≤ k * 100
theorem Inv.step {w wr w2 w3 w4 w5 : World} {tb m : Nat} {O : Nat → Prop} {oa oa2 : Option Addr} {k oc oc2 : Nat} {l : List Stp} {As : List An} {s : Stp} {x : An} (h : Inv w wr tb m O l oa k oc As) (hk : l[k]? = some s) (ho : Okay m s) (hs : Same wr w2)
    (hR : StepR w2 tb O (runL (l.take k)) m s x w3) (h34 : Same w3 w4) (hG : Grew 55 3 w4 w5 oa oa2 1 (k + 1) oc oc2 (As.flatMap anc ++ anc x)) :
    ∃ O', Inv w w5 tb m O' l oa2 (k + 1) oc2 (As ++ [x]) := by
  obtain ⟨O', r1, r2, r3, r4, r5, r6⟩ := hR
  have hO4 : Only (At oa) w3 w5 := Only.trans (S := At oa) (h34.mono (fun _ _ f => f.elim)) hG.only (fun _ _ h => h)
  have z0 := h.same.size
  have z1 := hs.size
  have z2 := r2.size
  have z3 := h34.size
  have hoa : ∀ j, At oa j → j < wr.heap.size := h.out.1.lt
  have hap : ∀ j, At oa j → ¬ O' j := fun j hj hf' => by
    rcases r3 j hf' with h' | h'
    · exact h.apart j hj h'
    · have := hoa j hj; omega
  have hfr : ∀ j, At oa2 j → At oa j ∨ w3.heap.size ≤ j := fun j hj => (hG.fresh j hj).imp id (fun h' => by omega)
  have ht3 := take_snoc l k s hk
  refine ⟨O', ⟨?_, ⟨by rw [flat_snoc]; exact hG.own, by rw [List.length_append, h.out.2]; rfl⟩, fun y hy => ?_, fun j hj => ?_, fun j hj hf' => ?_, ?_, ?_, ?_⟩⟩
  · rw [ht3, runL_snoc]
    exact r1.keep hO4 (fun j hj ha => hap j ha hj)
  · rcases List.mem_append.1 hy with hy | hy
    · obtain ⟨y1, y2⟩ := h.ins y hy
      have y3 : AnIn w3 y := (y1.still hs).keep r2 (fun j hj => (y2 j hj).2.2.1)
      have z5 := hO4.size
      refine ⟨y3.keep hO4 (fun j hj => (y2 j hj).2.2.2), fun j hj => ⟨(y2 j hj).1, by have := (y2 j hj).2.1; omega, fun hf' => ?_, fun hf' => ?_⟩⟩
      · rcases r3 j hf' with h' | h'
        · exact (y2 j hj).2.2.1 h'
        · have := (y2 j hj).2.1; omega
      · rcases hfr j hf' with h' | h'
        · exact (y2 j hj).2.2.2 h'
        · have := (y2 j hj).2.1; omega
    · rw [List.mem_singleton] at hy
      subst hy
      refine ⟨r5.keep hO4 (fun j hj ha => ?_), fun j hj => ⟨?_, by have := (r6 j hj).2.1; have := hO4.size; omega, (r6 j hj).2.2, fun ha => ?_⟩⟩
      · have := hoa j ha; have := (r6 j hj).1; omega
      · have := (r6 j hj).1; omega
      · have h8 := (r6 j hj).1
        have h9 := (r6 j hj).2.1
        rcases hfr j ha with h' | h'
        · have := hoa j h'; omega
        · omega
  · rcases hj with hj | hj
    · rcases r3 j hj with h' | h'
      · exact h.new j (.inl h')
      · omega
    · rcases hfr j hj with h' | h'
      · exact h.new j (.inr h')
      · omega
  · rcases hfr j hj with h' | h'
    · exact hap j h' hf'
    · have := (r1.lt hf').2; omega
  · have h1 : Only (fun j => w.heap.size ≤ j) wr w3 := Only.trans (S := fun j => w.heap.size ≤ j) (hs.mono (fun _ _ h => h.elim)) r2 (fun j _ hj => h.new j (.inl hj))
    have h2 : Only (fun j => w.heap.size ≤ j) wr w5 := h1.trans hO4 (fun j _ hj => h.new j (.inr hj))
    exact new_only h.same h2 (fun j hj => hj)
  · rw [ht3]
    exact h.ran.snoc r4
  · rw [ht3, runL_snoc]
    have := nxt_le (runL (l.take k)) s
    have := h.len
    have := ho.few
    omega
set_option maxRecDepth 100000 in
theorem entryC (w : World) (o : Option It) : Calls Tryd.prog 25 #[ansE o] w (EntP o w) := by
  cases o with
  | none =>
    show Calls Tryd.prog 25 #[.nilIface] w _
    have h1 := assertN
    go_enter Tryd.func25, Tryd.ntmps25
    go_wp2_with fail
    generalize hw9 : ((w.alloc (.cells #[.slice none 0 0, .int .u64 0, .bool false] 55)).alloc (.cells #[.int .u64 0, .int .i64 0] 66)) = w9
    have hs : Same w w9 := by rw [← hw9]; exact ((Only.refl _ w).alloc _).alloc _
    have hg : w9.heap[w.heap.size]? = some (.cells #[.slice none 0 0, .int .u64 0, .bool false] 55 (0, 0)) := by rw [← hw9]; exact ((Only.refl (fun _ => False) _).alloc _).obj (heap_alloc_new _ _) id
    have y0 := block_cell (j := 0) hg rfl
    have y1 := block_cell (j := 1) hg rfl
    have y2 := block_cell (j := 2) hg rfl
    refine bodyPost_ret (v := .agg #[.slice none 0 0, .int .u64 0, .bool false]) ?_ rfl ?_
    · simp [results, Tryd.results25, go_sem, y0, y1, y2]
    exact ⟨none, 0, 0, rfl, RS.nil _ _ _, hs, fun k hk => hk.elim⟩
  | some y =>
    obtain ⟨k, v⟩ := y
    show Calls Tryd.prog 25 #[Value.iface 66 (.agg #[.int .u64 (k : Int), .int .i64 v])] w _
    have h1 := assertI k v
    go_enter Tryd.func25, Tryd.ntmps25
    go_wp2_with fail
    generalize hw8 : ((w.alloc (.cells #[.slice (some ⟨w.heap.size + 1 + 1, 0, none⟩) 1 1, .int .u64 0, .bool false] 55)).alloc (.cells #[.int .u64 (k : Int), .int .i64 v] 66)) = w8
    have hz : w8.heap.size = w.heap.size + 1 + 1 := by rw [← hw8]; simp
    generalize hw9 : w8.alloc (.cells #[.int .u64 (k : Int), .int .i64 v] 43) = w9
    have hs8 : Same w w8 := by rw [← hw8]; exact ((Only.refl _ w).alloc _).alloc _
    have hs : Same w w9 := by rw [← hw9]; exact hs8.alloc _
    have hg8 : w8.heap[w.heap.size]? = some (.cells #[.slice (some ⟨w.heap.size + 1 + 1, 0, none⟩) 1 1, .int .u64 0, .bool false] 55 (0, 0)) := by rw [← hw8]; exact ((Only.refl (fun _ => False) _).alloc _).obj (heap_alloc_new _ _) id
    have hg : w9.heap[w.heap.size]? = some (.cells #[.slice (some ⟨w.heap.size + 1 + 1, 0, none⟩) 1 1, .int .u64 0, .bool false] 55 (0, 0)) := by rw [← hw9]; exact ((Only.refl (fun _ => False) _).alloc _).obj hg8 id
    have y0 := block_cell (j := 0) hg rfl
    have y1 := block_cell (j := 1) hg rfl
    have y2 := block_cell (j := 2) hg rfl
    refine bodyPost_ret (v := .agg #[.slice (some ⟨w.heap.size + 1 + 1, 0, none⟩) 1 1, .int .u64 0, .bool false]) ?_ rfl ?_
    · simp [results, Tryd.results25, go_sem, y0, y1, y2]
    have hO := Go.Proofs.YtcjifjfcjimefaaDoor.heap.Own.made 43 2 w8 #[.int .u64 (k : Int), .int .i64 v] 1 1 (Nat.le_refl _) (by unfold maxLen; omega) rfl (by
      intro u hu
      exact itc_one (k, v) u hu)
    rw [hw9, hz] at hO
    refine ⟨some ⟨w.heap.size + 1 + 1, 0, none⟩, 1, 1, rfl, ⟨hO.rd, rfl⟩, hs, fun k hk => ?_⟩
    have hk' : w.heap.size + 1 + 1 = k := hk
    have hz9 : w9.heap.size = w8.heap.size + 1 := by rw [← hw9]; simp
    omega
def RunPost (w : World) (l : List Stp) (n : Nat) (e : Ending) (w' : World) : Prop :=
  ∃ oa oc As, e = .returned (.slice oa n oc) ∧ RS anc 3 w' oa n oc As ∧ (∀ x ∈ As, AnIn w' x) ∧ RanT l As ∧ Same w w'
theorem slAn : SliceOf Tryd.prog 29 55 3 40 := SliceOf.mk (z := .agg #[.slice none 0 0, .int .u64 0, .bool false]) Tryd.underlying29 (by kernel_rfl) rfl
theorem slEy : SliceOf Tryd.prog 64 73 1 16 := SliceOf.mk (z := .nilIface) Tryd.underlying64 (by kernel_rfl) rfl
/-- in the course of the entries -/
structure Mks (w3 wj : World) (la : Option Addr) (j lc : Nat) (I : List It) : Prop where
  out : OL 73 entv wj la j lc (I.take j)
  same : Same w3 wj
  new : ∀ k, At la k → w3.heap.size ≤ k
theorem Mks.step {w3 wj wk w8 : World} {la la2 : Option Addr} {j lc lc2 : Nat} {I : List It} {y : It} (h : Mks w3 wj la j lc I) (hy : I[j]? = some y) (hs : Same wj wk) (hG : Grew 73 1 wk w8 la la2 1 (j + 1) lc lc2 ((I.map entv).take j ++ [entv y])) : Mks w3 w8 la2 (j + 1) lc2 I := by
  have z1 := h.same.size
  have z2 := hs.size
  refine ⟨?_, new_only (h.same.trans hs) hG.only h.new, fun k hk => ?_⟩
  · rw [take_snoc I j y hy]
    exact ⟨by rw [List.map_append, List.map_take]; exact hG.own, by rw [List.length_append, h.out.2]; rfl⟩
  · rcases hG.fresh k hk with h' | h'
    · exact h.new k h'
    · omega
theorem Inv.ins1 {w wr w3 wj : World} {tb m : Nat} {O : Nat → Prop} {l : List Stp} {oa la : Option Addr} {k n oc lc : Nat} {As : List An} {s : Stp} (h : Inv w wr tb m O l oa k oc As) (hT : Tabs w) (ho : Okay m s) (hin : s.I.length = n) (hs : Same wr w3) (hE : Mks w3 wj la n lc s.I) (hk : k ≤ 900) :
    Calls Tryd.prog 23 #[op (some tb), .slice la n lc] wj (fun e w' => ∃ a' c' R, e = .returned (.slice a' n c') ∧ Same wr wj ∧ Gone wj w' tb O (puts (runL (l.take k)) s.I) m a' n c' R) := by
  have h1 := h.len
  have h2 := ho.few
  have hr := hE.out.rl
  rw [List.take_of_length_le (by omega)] at hr
  have hs2 := hs.trans hE.same
  exact (insertsC wj tb O _ m la n lc s.I (h.tr.still hs2) (hT.still (h.same.trans hs2)) hr (fun j hj hO => by
    have h8 := hE.new j hj
    have h9 := (h.tr.lt hO).2
    have := hs.size
    omega) (by omega) ho.inU).mono (fun e w' hh => by
      obtain ⟨a', c', R, e1, e2⟩ := hh
      exact ⟨a', c', R, e1, hs2, e2⟩)
theorem putStep {wr wj w5 w6 w7 : World} {tb m sb n c xn xc : Nat} {O : Nat → Prop} {L X : List It} {s : Stp} {a xa : Option Addr} {R : List (Option It)} (h1 : s.op = 1) (hs : Same wr wj) (hG : Gone wj w5 tb O (puts L s.I) m a n c R) (h6 : Same w5 w6) (h7 : Only (fun k => k = sb) w6 w7) (hsb : wr.heap.size ≤ sb) (hsj : sb < wj.heap.size) (hOl : ∀ k, O k → k < wr.heap.size)
    (hX : RS itc 2 w6 xa xn xc X) (hXf : ∀ k, At xa k → w5.heap.size ≤ k ∧ k < w6.heap.size) : StepR wr tb O L m s ⟨xa, xn, xc, X, 0, false⟩ w7 := by
  obtain ⟨⟨O', g1, g2, g3⟩, g4, _, _⟩ := hG
  have z := hs.size
  have z4 := g4.size
  have z6 := h6.size
  have z7 := h7.size
  have hOs : ∀ k, O' k → k < w5.heap.size := fun k hk => (g1.lt hk).2
  have hnsb : ¬ O' sb := fun e => by
    rcases g2 sb e with h' | h'
    · have := hOl sb h'; omega
    · omega
  refine ⟨O', ?_, ?_, fun k hk => (g2 k hk).imp id (fun h => by omega), fun h => absurd h1 h, hX.keep h7 (fun k hk e => by have := (hXf k hk).1; have e' : k = sb := e; omega), fun k hk => ⟨by have := (hXf k hk).1; omega, by have := (hXf k hk).2; omega, fun e => by have := hOs k e; have := (hXf k hk).1; omega⟩⟩
  · unfold nxt
    rw [if_pos h1]
    exact (g1.still h6).keep h7 (fun k hk e => hnsb (by have e' : k = sb := e; rw [← e']; exact hk))
  · refine Only.trans (S := O) (hs.mono (fun _ _ f => f.elim)) (Only.trans (S := fun k => O k ∨ k = sb) ((g4.mono (fun _ _ h => .inl h)).trans (h6.mono (fun _ _ f => f.elim)) (fun _ _ h => h)) (h7.mono (fun _ _ h => .inr h)) (fun _ _ h => h)) (fun k hk e => ?_)
    rcases e with e | e
    · exact e
    · omega
/-- an answer that is being made -/
def Sb (w : World) (b : Nat) (x : An) : Prop := w.heap[b]? = some (.cells #[.slice x.a x.n x.cap, .int .u64 (x.num : Int), .bool x.yes] 55 (0, 0))
theorem Says.len {L : List It} {s : Stp} (h : s.op = 5) {k : Nat} (hk : L.length = k) : nxt L s = L ∧ Says L s ⟨none, 0, 0, [], k, false⟩ := by
  unfold Says nxt sayL sayN sayY
  rw [if_neg (by omega), if_neg (by omega), if_neg (by omega), if_neg (by omega), if_pos h, if_neg (by omega)]
  exact ⟨rfl, rfl, hk.symm, rfl⟩
theorem Says.yes {L : List It} {s : Stp} (h : s.op = 4) {k : Bool} (hk : sayY L s = k) : nxt L s = L ∧ Says L s ⟨none, 0, 0, [], 0, k⟩ := by
  unfold Says
  rw [hk]
  unfold nxt sayL sayN
  rw [if_neg (by omega), if_neg (by omega), if_neg (by omega), if_neg (by omega), if_neg (by omega)]
  exact ⟨rfl, rfl, rfl, rfl⟩
theorem Says.ent {L E : List It} {s : Stp} {o : Int} (h : s.op = o) {a : Option Addr} {n c : Nat} (hk : sayL L s = E) (h1 : o ≠ 1 ∧ o ≠ 4 ∧ o ≠ 5) : nxt L s = L ∧ Says L s ⟨a, n, c, E, 0, false⟩ := by
  unfold Says
  rw [hk]
  unfold nxt sayY sayN
  rw [if_neg (by omega), if_neg (by omega), if_neg (by omega)]
  exact ⟨rfl, rfl, rfl, rfl⟩
theorem ask_step {wr w6 : World} {tb m : Nat} {O : Nat → Prop} {L : List It} {s : Stp} {x : An} (h : nxt L s = L ∧ Says L s x) (ht : Tr wr tb O L m) (hs : Same wr w6) (hr : AnIn w6 x) (hn : ∀ k, At x.a k → wr.heap.size ≤ k ∧ k < w6.heap.size) : StepR wr tb O L m s x w6 := by
  refine ⟨O, ?_, hs.mono (fun _ _ f => f.elim), fun k hk => .inl hk, fun _ => h.2, hr, fun k hk => ⟨(hn k hk).1, (hn k hk).2, fun hk' => ?_⟩⟩
  · rw [h.1]; exact ht.still hs
  · have := (hn k hk).1; have := (ht.lt hk').2; omega
set_option maxRecDepth 100000 in
set_option maxHeartbeats 6400000 in
theorem yfRun (m : Nat) (hb : Bits m) (a : Option Addr) (n cap : Nat) (l : List Stp) (w : World) (hl : RS stc 3 w a n cap l) (hn : n ≤ 900) (hs : ∀ s ∈ l, Okay m s ∧ StIn w s ∧ (s.op = 1 ∨ s.op = 3 ∨ s.op = 5)) (hT : Tabs w) :
    Calls Tryd.prog 14 #[.int .i64 (m : Int), .slice a n cap] w (RunPost w l n) := by
  have hbd := hl.bound
  have HR := Lib.hid hl
  have HS := Lib.hid hs
  have HT := Lib.hid hT
  have hw2 := hT.2.2
  have HU := Lib.hid (universe_of m w hb)
  have HN : Hid (∀ wx, Same w wx → Calls Tryd.prog 20 #[uni m] wx (FreshP m wx)) := Lib.hid (fun wx hx => newC m wx hb (by have := hx.size; omega))
  clear hl hs hT
  go_enter Tryd.func14, Tryd.ntmps14
  go_wp2_with fail
  refine HU.out.mono ?_
  rintro e w1 ⟨rfl, hs1⟩
  have HN1 := Lib.hid (HN.out w1 hs1)
  have HS1 := Lib.hid hs1
  clear hs1 HU HN
  go_wp2_with fail
  refine HN1.out.mono ?_
  rintro e w2 ⟨tb, O, rfl, ht, hs2, ho⟩
  have HI0 : Hid (Inv w w2 tb m O l none 0 0 []) := Lib.hid ⟨ht, OS.nil _ _ _ _, fun x hx => absurd hx List.not_mem_nil, fun j hj => by
    rcases hj with hj | hj
    · have := ho j hj; have := HS1.out.size; omega
    · exact hj.elim, fun j hj => hj.elim, HS1.out.trans hs2, ⟨rfl, fun i s x hi => by simp at hi⟩, by simp [runL]⟩
  clear ht hs2 ho HN1 HS1
  go_wp2_with fail
  go_loopw [6, 18] (fun o i wr => ∃ (k : Nat) (O : Nat → Prop) (oa : Option Addr) (oc : Nat) (As : List An), o = .slice oa k oc ∧ i = .int .i64 (k : Int) ∧ k ≤ n ∧ Hid (Inv w wr tb m O l oa k oc As)) (fun _ i _ => n - (intOf i).toNat)
  case atStart => exact ⟨0, O, none, 0, [], rfl, rfl, Nat.zero_le _, HI0⟩
  case round =>
    clear HI0
    obtain ⟨k, O, oa, oc, As, rfl, rfl, hk, HI⟩ := hrel
    have hbo := HI.out.out.bound
    by_cases hlt : k < n
    · have hlt' : (k : Int) < (n : Int) := by omega
      obtain ⟨b, off, ha, hb', hc⟩ := (HR.out.still HI.out.same).at stc_len (by omega)
      obtain ⟨s, hsk⟩ := HR.out.get hlt
      have hc2 := hc k s hsk
      have c0 : wr.cell? ⟨b, off + k * 3, none⟩ = some (.int .i64 s.op) := hc2 0 _ rfl
      have c1 : wr.cell? ⟨b, off + k * 3 + 1, none⟩ = some (.slice s.ia s.im s.ic) := hc2 1 _ rfl
      have c2 : wr.cell? ⟨b, off + k * 3 + 2, none⟩ = some (.slice s.ka s.km s.kc) := hc2 2 _ rfl
      have HSK := Lib.hid hsk
      subst ha
      clear hc hc2 hsk
      have HOK := Lib.hid (HS.out s (List.mem_of_getElem? HSK.out))
      rcases HOK.out.2.2 with h1 | h1 | h1
      · obtain ⟨w0, rfl⟩ : ∃ w0, w0 = wr := ⟨_, rfl⟩
        rw [h1] at c0
        have HSB : Hid (Sb ((w0.alloc (.cells #[.int .i64 1, .slice s.ia s.im s.ic, .slice s.ka s.km s.kc] 34)).alloc (.cells #[.slice none 0 0, .int .u64 0, .bool false] 55)) (w0.heap.size + 1) ⟨none, 0, 0, [], 0, false⟩) := Lib.hid (heap_alloc_new' _ _ _ (by simp))
        have HSW : Hid (Same w0 ((w0.alloc (.cells #[.int .i64 1, .slice s.ia s.im s.ic, .slice s.ka s.km s.kc] 34)).alloc (.cells #[.slice none 0 0, .int .u64 0, .bool false] 55))) := Lib.hid (((Only.refl _ _).alloc _).alloc _)
        have HIM := Lib.hid HOK.out.2.1.1
        have hin := HOK.out.2.1.1.2
        have hib := HOK.out.2.1.1.bound
        have him : s.im ≤ 100 := by have := HOK.out.1.few; omega
        go_wp2_with fail
        have HZ0 : Hid (((w0.alloc (.cells #[.int .i64 1, .slice s.ia s.im s.ic, .slice s.ka s.km s.kc] 34)).alloc (.cells #[.slice none 0 0, .int .u64 0, .bool false] 55)).heap.size = w0.heap.size + 1 + 1) := Lib.hid (by simp)
        obtain ⟨w3, hw3⟩ : ∃ w3, (w0.alloc (.cells #[.int .i64 1, .slice s.ia s.im s.ic, .slice s.ka s.km s.kc] 34)).alloc (.cells #[.slice none 0 0, .int .u64 0, .bool false] 55) = w3 := ⟨_, rfl⟩
        rw [hw3] at HSB HSW HZ0 ⊢
        clear hw3 c0 c1 c2
        have HE0 : Hid (Mks w3 w3 none 0 0 s.I) := Lib.hid ⟨OL.nil _ _ _, Only.refl _ _, fun j hj => hj.elim⟩
        go_loopw [10, 29] (fun o i wj => ∃ (j : Nat) (la : Option Addr) (lc : Nat), o = .slice la j lc ∧ i = .int .i64 (j : Int) ∧ j ≤ s.im ∧ Hid (Mks w3 wj la j lc s.I)) (fun _ i _ => s.im - (intOf i).toNat)
        case atStart => exact ⟨0, none, 0, rfl, rfl, Nat.zero_le _, HE0⟩
        case round =>
          clear HE0
          obtain ⟨j, la, lc, rfl, rfl, hj, HE⟩ := hrel
          have hbe := HE.out.out.bound
          by_cases hjlt : j < s.im
          · have hjlt' : (j : Int) < (s.im : Int) := by omega
            obtain ⟨b2, off2, ha2, hb2', hc2⟩ := (((HIM.out.still HI.out.same).still HSW.out).still HE.out.same).at itc_len (by omega)
            obtain ⟨y, hy⟩ := HIM.out.get hjlt
            have d0 : wr.cell? ⟨b2, off2 + j * 2, none⟩ = some (.int .u64 (y.1 : Int)) := hc2 j y hy 0 _ rfl
            have d1 : wr.cell? ⟨b2, off2 + j * 2 + 1, none⟩ = some (.int .i64 y.2) := hc2 j y hy 1 _ rfl
            have HY := Lib.hid hy
            clear hc2 hy
            rw [ha2]
            have HOW := Lib.hid HE.out.out
            clear ha2
            go_wp2_with (at_builtin; refine wpList_append (j + 1) ((s.I.take j).map entv ++ [(Value.iface 66 (.agg #[.int .u64 (y.1 : Int), .int .i64 y.2]))]) rfl _ _ _ _ rfl slEy rfl (HOW.out.1.keep (S := fun _ => False) (by repeat (first | exact Only.refl _ _ | apply Only.alloc | apply Only.drew)) (fun _ _ => id)) rfl (Src.row (size := 1) (cs := #[(Value.iface 66 (.agg #[.int .u64 (y.1 : Int), .int .i64 y.2]))]) (t := 73) (fr := (0, 0)) Tryd.underlying64 (by exact heap_alloc_new' _ _ _ (by simp)) 1 1 rfl (by simp [Value.oneCell'])) rfl rfl (by unfold maxLen; omega) (by omega) ?_)
            intro la2 lc2 w8 hG
            have HE2 := Lib.hid (HE.out.step HY.out (by repeat (first | exact Only.refl _ _ | apply Only.alloc | apply Only.drew)) hG)
            clear hG HOW
            go_wp2_with fail
            go_roundw
            case rel => exact ⟨j + 1, la2, lc2, rfl, by go_num, by omega, HE2⟩
            case measure => simp [intOf]; omega
          · have hjlt' : ¬ (j : Int) < (s.im : Int) := by omega
            obtain rfl : j = s.im := by omega
            have HIC := Lib.hid (HI.out.ins1 HT.out HOK.out.1 hin HSW.out HE.out (Nat.le_trans hk hn))
            go_wp2_with fail
            refine HIC.out.mono ?_
            rintro e w5 ⟨ra, rc, R, rfl, hsj, hG5⟩
            have HGO := Lib.hid (And.intro hsj hG5)
            have HYS := Lib.hid (yfSaid_of w5 ra s.im rc R hG5.row.rl (by omega))
            clear hsj hG5 HIC
            go_wp2_with fail
            refine HYS.out.mono ?_
            rintro e w6 ⟨xa, xn, xc, X, rfl, hX6, hs6, hf6⟩
            have HX6 := Lib.hid (And.intro hX6 hf6)
            have HS6 := Lib.hid hs6
            have hsb5 := HGO.out.2.only.obj (HE.out.same.obj HSB.out id) (fun h => by have := (HI.out.tr.lt h).2; omega)
            have HSB6 := Lib.hid (hs6.obj hsb5 id)
            have HOL : Hid (∀ k, O k → k < w0.heap.size) := Lib.hid (fun k hk => (HI.out.tr.lt hk).2)
            have hsj : w0.heap.size + 1 < wr.heap.size := lt_of_heap (HE.out.same.obj HSB.out id)
            have x0 : w6.cell? ⟨w0.heap.size + 1, 0, none⟩ = some (.slice none 0 0) := block_cell HSB6.out rfl
            have x1 : w6.cell? ⟨w0.heap.size + 1, 1, none⟩ = some (.int .u64 0) := block_cell HSB6.out rfl
            have x2 : w6.cell? ⟨w0.heap.size + 1, 2, none⟩ = some (.bool false) := block_cell HSB6.out rfl
            have xf : ∀ i, w6.frozen? ⟨w0.heap.size + 1, i, none⟩ = false := fun i => block_free HSB6.out
            have lx := lt_of_heap HSB6.out
            obtain ⟨sb, hsb⟩ : ∃ sb, w0.heap.size + 1 = sb := ⟨_, rfl⟩
            have HW7 : Hid (∀ w7, w7 = (((w6.setCell ⟨sb, 0, none⟩ (.slice xa xn xc)).setCell ⟨sb, 1, none⟩ (.int .u64 0)).setCell ⟨sb, 2, none⟩ (.bool false)) → StepR w0 tb O (runL (l.take k)) m s ⟨xa, xn, xc, X, 0, false⟩ w7 ∧ OS 55 anc 3 w7 oa k oc As ∧ w7.heap[sb]? = some (.cells #[.slice xa xn xc, .int .u64 0, .bool false] 55 (0, 0))) := Lib.hid (fun w7 h7 => by
              have hO : Only (fun k => k = sb) w6 w7 := by rw [h7]; exact (((Only.refl (fun k => k = sb) w6).setCell ⟨sb, 0, none⟩ _ (fun _ => rfl)).setCell ⟨sb, 1, none⟩ _ (fun _ => rfl)).setCell ⟨sb, 2, none⟩ _ (fun _ => rfl)
              refine ⟨putStep h1 HGO.out.1 HGO.out.2 HS6.out hO (by omega) (by omega) HOL.out HX6.out.1 (fun k hk => ⟨by have := (HX6.out.2 k hk).1; omega, (HX6.out.2 k hk).2⟩), ?_, ?_⟩
              · exact ((((HI.out.out.still HGO.out.1).keep HGO.out.2.only (fun j hj hf => HI.out.apart j hj hf)).still HS6.out)).keep hO (fun j hj e => by have := HI.out.out.1.lt j hj; have e' : j = sb := e; omega)
              · rw [h7, ← hsb]
                exact setCell_heap (setCell_heap (setCell_heap HSB6.out 0 _) 1 _) 2 _)
            rw [hsb] at x0 x1 x2 xf lx ⊢
            clear hX6 hs6 hf6 hsb5 HYS hsb hsj
            go_upto_region 22 with fail
            obtain ⟨w7, hw7⟩ : ∃ w7, (((w6.setCell ⟨sb, 0, none⟩ (.slice xa xn xc)).setCell ⟨sb, 1, none⟩ (.int .u64 0)).setCell ⟨sb, 2, none⟩ (.bool false)) = w7 := ⟨_, rfl⟩
            have HQ := Lib.hid (HW7.out w7 hw7.symm)
            rw [hw7]
            clear hw7 x0 x1 x2 xf lx HW7
            have y0 := block_cell (j := 0) HQ.out.2.2 rfl
            have y1 := block_cell (j := 1) HQ.out.2.2 rfl
            have y2 := block_cell (j := 2) HQ.out.2.2 rfl
            have ly := lt_of_heap HQ.out.2.2
            have HOW := Lib.hid HQ.out.2.1
            go_wp2_with (at_builtin; refine wpList_append (k + 1) (As.flatMap anc ++ anc ⟨xa, xn, xc, X, 0, false⟩) rfl _ _ _ _ rfl slAn rfl (HOW.out.1.keep (S := fun _ => False) (by repeat (first | exact Only.refl _ _ | apply Only.alloc | apply Only.drew)) (fun _ _ => id)) rfl (Src.row (size := 3) (cs := #[.slice xa xn xc, .int .u64 0, .bool false]) (t := 55) (fr := (0, 0)) Tryd.underlying29 (by exact heap_alloc_new' _ _ _ (by simp)) 1 1 rfl (by simp [Value.oneCell'])) rfl rfl (by unfold maxLen; omega) (by omega) ?_)
            intro oa2 oc2 w8 hG
            have HI2 := Lib.hid (HI.out.step HSK.out HOK.out.1 (Only.refl _ _) HQ.out.1 ((Only.refl _ w7).alloc _) hG)
            clear hG HOW HQ
            obtain ⟨O2, hI2⟩ := HI2.out
            have HI3 := Lib.hid hI2
            clear hI2 HI2
            go_wp2_with fail
            go_roundw
            case rel => exact ⟨k + 1, O2, oa2, oc2, _, rfl, by go_num, by omega, HI3⟩
            case measure => simp [intOf]; omega
      · rw [h1] at c0
        have HSB : Hid (Sb ((wr.alloc (.cells #[.int .i64 3, .slice s.ia s.im s.ic, .slice s.ka s.km s.kc] 34)).alloc (.cells #[.slice none 0 0, .int .u64 0, .bool false] 55)) (wr.heap.size + 1) ⟨none, 0, 0, [], 0, false⟩) := Lib.hid (heap_alloc_new' _ _ _ (by simp))
        have HSW : Hid (Same wr ((wr.alloc (.cells #[.int .i64 3, .slice s.ia s.im s.ic, .slice s.ka s.km s.kc] 34)).alloc (.cells #[.slice none 0 0, .int .u64 0, .bool false] 55))) := Lib.hid (((Only.refl _ _).alloc _).alloc _)
        have HSL : Hid (∀ wx, Same ((wr.alloc (.cells #[.int .i64 3, .slice s.ia s.im s.ic, .slice s.ka s.km s.kc] 34)).alloc (.cells #[.slice none 0 0, .int .u64 0, .bool false] 55)) wx → (wr.heap.size + 1) < wx.heap.size) := Lib.hid (fun wx hx => lt_of_heap (hx.obj HSB.out id))
        have HFI : Hid (∀ wx, Same wr wx → Calls Tryd.prog 27 #[.slice s.ka s.km s.kc] wx (SayP (uv (s.K.headD 0)) wx)) := Lib.hid (fun wx hx => first_of wx _ _ _ _ ((HOK.out.2.1.still HI.out.same).still hx).2)
        obtain ⟨kx, hkx⟩ : ∃ kx, s.K.headD 0 = kx := ⟨_, rfl⟩
        have hku := HOK.out.1.key
        rw [hkx] at hku HFI
        obtain ⟨ov, hov⟩ : ∃ ov, ansE (fnd (runL (l.take k)) kx) = ov := ⟨_, rfl⟩
        have HGE : Hid (∀ wx, Same wr wx → Calls Tryd.prog 26 #[op (some tb), .int .u64 (kx : Int)] wx (SayP ov wx)) := Lib.hid (fun wx hx => by
          have h9 := getC wx tb O _ m kx (HI.out.tr.still hx) hku
          rwa [hov] at h9)
        have HEN : Hid (∀ wx, Calls Tryd.prog 25 #[ov] wx (EntP (fnd (runL (l.take k)) kx) wx)) := Lib.hid (fun wx => by rw [← hov]; exact entryC wx _)
        have HYE : Hid (sayL (runL (l.take k)) s = (fnd (runL (l.take k)) kx).toList) := Lib.hid (by unfold sayL; rw [if_pos h1, hkx])
        clear hov hkx hku
        go_wp2_with fail
        refine (HFI.out _ HSW.out).mono ?_
        rintro e w2' ⟨rfl, hs2'⟩
        have HS2 := Lib.hid hs2'
        clear hs2' HFI
        go_wp2_with fail
        refine (HGE.out _ (HSW.out.trans HS2.out)).mono ?_
        rintro e w3 ⟨rfl, hs3'⟩
        have HS3 := Lib.hid (HS2.out.trans hs3')
        clear hs3' HGE HS2
        go_wp2_with fail
        refine (HEN.out _).mono ?_
        rintro e w4 ⟨ea, en, ec, rfl, hr4, hs4, hn4⟩
        have hs3 := HS3.out.trans hs4
        have HR4 := Lib.hid (And.intro hr4 hn4)
        have HZ4 : Hid (wr.heap.size + 1 < w3.heap.size) := Lib.hid (HSL.out _ HS3.out)
        clear hs4 hr4 hn4 HEN HS3
        have hsb3 := hs3.obj HSB.out id
        have x0 : ∀ i, w4.frozen? ⟨wr.heap.size + 1, i, none⟩ = false := fun i => block_free hsb3
        have xl := HSL.out _ hs3
        have HSB3 := Lib.hid hsb3
        have HON : Hid (Only (fun k => k = wr.heap.size + 1) w4 (((w4.setCell ⟨wr.heap.size + 1, 0, none⟩ (.slice ea en ec)).setCell ⟨wr.heap.size + 1, 1, none⟩ (.int .u64 0)).setCell ⟨wr.heap.size + 1, 2, none⟩ (.bool false))) := Lib.hid (Only.setCell (Only.setCell (Only.setCell (Only.refl (fun k => k = wr.heap.size + 1) w4) ⟨wr.heap.size + 1, 0, none⟩ _ (fun _ => rfl)) ⟨wr.heap.size + 1, 1, none⟩ _ (fun _ => rfl)) ⟨wr.heap.size + 1, 2, none⟩ _ (fun _ => rfl))
        have HW6 : Hid (Same wr (((w4.setCell ⟨wr.heap.size + 1, 0, none⟩ (.slice ea en ec)).setCell ⟨wr.heap.size + 1, 1, none⟩ (.int .u64 0)).setCell ⟨wr.heap.size + 1, 2, none⟩ (.bool false)) ∧ True) := Lib.hid ⟨new_only (HSW.out.trans hs3) HON.out (fun k e => by have : k = wr.heap.size + 1 := e; omega), trivial⟩
        have HR6 : Hid (RS itc 2 (((w4.setCell ⟨wr.heap.size + 1, 0, none⟩ (.slice ea en ec)).setCell ⟨wr.heap.size + 1, 1, none⟩ (.int .u64 0)).setCell ⟨wr.heap.size + 1, 2, none⟩ (.bool false)) ea en ec (fnd (runL (l.take k)) kx).toList ∧ ∀ k, At ea k → wr.heap.size ≤ k ∧ k < ((((w4.setCell ⟨wr.heap.size + 1, 0, none⟩ (.slice ea en ec)).setCell ⟨wr.heap.size + 1, 1, none⟩ (.int .u64 0)).setCell ⟨wr.heap.size + 1, 2, none⟩ (.bool false))).heap.size) := Lib.hid (by
          have hz3 := HZ4.out
          obtain ⟨q1, q2⟩ := HR4.out
          refine ⟨q1.keep HON.out (fun k hk e => ?_), fun k hk => ⟨?_, ?_⟩⟩
          · have := (q2 k hk).1; have e' : k = wr.heap.size + 1 := e; omega
          · have := (q2 k hk).1; omega
          · have := (q2 k hk).2; have := HON.out.size; omega)
        have y0 : w4.cell? ⟨wr.heap.size + 1, 0, none⟩ = some (.slice none 0 0) := block_cell HSB3.out rfl
        have y1 : w4.cell? ⟨wr.heap.size + 1, 1, none⟩ = some (.int .u64 0) := block_cell HSB3.out rfl
        have y2 : w4.cell? ⟨wr.heap.size + 1, 2, none⟩ = some (.bool false) := block_cell HSB3.out rfl
        obtain ⟨sb, hsb⟩ : ∃ sb, wr.heap.size + 1 = sb := ⟨_, rfl⟩
        rw [hsb] at x0 xl HW6 HR6 y0 y1 y2 ⊢
        clear c0 c1 c2 hs3 hsb3 HSB3 HSL HSW HSB hsb HON HR4 HZ4
        have HST : Hid (StepR wr tb O (runL (l.take k)) m s ⟨ea, en, ec, (fnd (runL (l.take k)) kx).toList, 0, false⟩ (((w4.setCell ⟨sb, 0, none⟩ (.slice ea en ec)).setCell ⟨sb, 1, none⟩ (.int .u64 0)).setCell ⟨sb, 2, none⟩ (.bool false))) := Lib.hid (ask_step (Says.ent h1 HYE.out ⟨by omega, by omega, by omega⟩) HI.out.tr HW6.out.1 HR6.out.1 HR6.out.2)
        have HOW : Hid (OS 55 anc 3 (((w4.setCell ⟨sb, 0, none⟩ (.slice ea en ec)).setCell ⟨sb, 1, none⟩ (.int .u64 0)).setCell ⟨sb, 2, none⟩ (.bool false)) oa k oc As) := Lib.hid (HI.out.out.still HW6.out.1)
        go_wp2_with (at_builtin; refine wpList_append (k + 1) (As.flatMap anc ++ anc ⟨ea, en, ec, (fnd (runL (l.take k)) kx).toList, 0, false⟩) rfl _ _ _ _ rfl slAn rfl (HOW.out.1.keep (S := fun _ => False) (by repeat (first | exact Only.refl _ _ | apply Only.alloc | apply Only.drew)) (fun _ _ => id)) rfl (Src.row (size := 3) (cs := #[.slice ea en ec, .int .u64 (0 : Int), .bool false]) (t := 55) (fr := (0, 0)) Tryd.underlying29 (by exact heap_alloc_new' _ _ _ (by simp)) 1 1 rfl (by simp [Value.oneCell'])) rfl rfl (by unfold maxLen; omega) (by omega) ?_)
        intro oa2 oc2 w8 hG
        have HI2 := Lib.hid (HI.out.step HSK.out HOK.out.1 (Only.refl _ _) HST.out ((Only.refl _ (((w4.setCell ⟨sb, 0, none⟩ (.slice ea en ec)).setCell ⟨sb, 1, none⟩ (.int .u64 0)).setCell ⟨sb, 2, none⟩ (.bool false))).alloc _) hG)
        clear hG HOW HST
        obtain ⟨O2, hI2⟩ := HI2.out
        have HI3 := Lib.hid hI2
        clear hI2 HI2
        go_wp2_with fail
        go_roundw
        case rel => exact ⟨k + 1, O2, oa2, oc2, _, rfl, by go_num, by omega, HI3⟩
        case measure => simp [intOf]; omega
      · rw [h1] at c0
        have HSB : Hid (Sb ((wr.alloc (.cells #[.int .i64 5, .slice s.ia s.im s.ic, .slice s.ka s.km s.kc] 34)).alloc (.cells #[.slice none 0 0, .int .u64 0, .bool false] 55)) (wr.heap.size + 1) ⟨none, 0, 0, [], 0, false⟩) := Lib.hid (heap_alloc_new' _ _ _ (by simp))
        have HSW : Hid (Same wr ((wr.alloc (.cells #[.int .i64 5, .slice s.ia s.im s.ic, .slice s.ka s.km s.kc] 34)).alloc (.cells #[.slice none 0 0, .int .u64 0, .bool false] 55))) := Lib.hid (((Only.refl _ _).alloc _).alloc _)
        have HSL : Hid (∀ wx, Same ((wr.alloc (.cells #[.int .i64 5, .slice s.ia s.im s.ic, .slice s.ka s.km s.kc] 34)).alloc (.cells #[.slice none 0 0, .int .u64 0, .bool false] 55)) wx → (wr.heap.size + 1) < wx.heap.size) := Lib.hid (fun wx hx => lt_of_heap (hx.obj HSB.out id))
        have HLE : Hid (∀ wx, Same wr wx → Calls Tryd.prog 28 #[op (some tb)] wx (SayP (.int .u64 ((runL (l.take k)).length : Int)) wx)) := Lib.hid (fun wx hx => lenC wx tb O _ m (HI.out.tr.still hx))
        obtain ⟨nL, hnL⟩ : ∃ nL, (runL (l.take k)).length = nL := ⟨_, rfl⟩
        have HNL := Lib.hid hnL
        rw [hnL] at HLE
        clear hnL
        go_wp2_with fail
        refine (HLE.out _ HSW.out).mono ?_
        rintro e w3 ⟨rfl, hs3⟩
        have HS3 := Lib.hid hs3
        have hsb3 := hs3.obj HSB.out id
        have x0 : ∀ i, w3.frozen? ⟨wr.heap.size + 1, i, none⟩ = false := fun i => block_free hsb3
        have xl := HSL.out _ hs3
        have HSB3 := Lib.hid hsb3
        have HW6 : Hid (Same wr (w3.setCell ⟨wr.heap.size + 1, 1, none⟩ (.int .u64 (nL : Int))) ∧ True) := Lib.hid ⟨new_only (HSW.out.trans hs3) ((Only.refl (fun k => k = wr.heap.size + 1) w3).setCell ⟨wr.heap.size + 1, 1, none⟩ _ (fun _ => rfl)) (fun k e => by have : k = wr.heap.size + 1 := e; omega), trivial⟩
        have HSB6 : Hid (Sb (w3.setCell ⟨wr.heap.size + 1, 1, none⟩ (.int .u64 (nL : Int))) (wr.heap.size + 1) ⟨none, 0, 0, [], nL, false⟩) := Lib.hid (setCell_heap hsb3 1 (.int .u64 (nL : Int)))
        clear hs3 hsb3
        obtain ⟨sb, hsb⟩ : ∃ sb, wr.heap.size + 1 = sb := ⟨_, rfl⟩
        rw [hsb] at x0 xl HW6 HSB6 ⊢
        have y0 : w3.cell? ⟨sb, 0, none⟩ = some (.slice none 0 0) := by rw [← hsb]; exact block_cell HSB3.out rfl
        have y1 : w3.cell? ⟨sb, 1, none⟩ = some (.int .u64 0) := by rw [← hsb]; exact block_cell HSB3.out rfl
        have y2 : w3.cell? ⟨sb, 2, none⟩ = some (.bool false) := by rw [← hsb]; exact block_cell HSB3.out rfl
        clear c0 c1 c2 HSB3 HSL HSW HSB HS3 hsb
        have HST : Hid (StepR wr tb O (runL (l.take k)) m s ⟨none, 0, 0, [], nL, false⟩ (w3.setCell ⟨sb, 1, none⟩ (.int .u64 (nL : Int)))) := Lib.hid (ask_step (Says.len h1 HNL.out) HI.out.tr HW6.out.1 (RS.nil _ _ _) (fun k hk => hk.elim))
        have HOW : Hid (OS 55 anc 3 (w3.setCell ⟨sb, 1, none⟩ (.int .u64 (nL : Int))) oa k oc As) := Lib.hid (HI.out.out.still HW6.out.1)
        go_wp2_with (at_builtin; refine wpList_append (k + 1) (As.flatMap anc ++ anc ⟨none, 0, 0, [], nL, false⟩) rfl _ _ _ _ rfl slAn rfl (HOW.out.1.keep (S := fun _ => False) (by repeat (first | exact Only.refl _ _ | apply Only.alloc | apply Only.drew)) (fun _ _ => id)) rfl (Src.row (size := 3) (cs := #[.slice none 0 0, .int .u64 (nL : Int), .bool false]) (t := 55) (fr := (0, 0)) Tryd.underlying29 (by exact heap_alloc_new' _ _ _ (by simp)) 1 1 rfl (by simp [Value.oneCell'])) rfl rfl (by unfold maxLen; omega) (by omega) ?_)
        intro oa2 oc2 w8 hG
        have HI2 := Lib.hid (HI.out.step HSK.out HOK.out.1 (Only.refl _ _) HST.out ((Only.refl _ (w3.setCell ⟨sb, 1, none⟩ (.int .u64 (nL : Int)))).alloc _) hG)
        clear hG HOW HST
        obtain ⟨O2, hI2⟩ := HI2.out
        have HI3 := Lib.hid hI2
        clear hI2 HI2
        go_wp2_with fail
        go_roundw
        case rel => exact ⟨k + 1, O2, oa2, oc2, _, rfl, by go_num, by omega, HI3⟩
        case measure => simp [intOf]; omega
    · have hlt' : ¬ (k : Int) < (n : Int) := by omega
      obtain rfl : k = n := by omega
      go_wp2_with fail
      go_ret
      have hi := HI.out
      have hr := hi.ran
      rw [List.take_of_length_le (by rw [HR.out.2]; exact Nat.le_refl _)] at hr
      exact ⟨oa, oc, As, rfl, hi.out.rs, fun x hx => (hi.ins x hx).1, hr, hi.same⟩
end Go.Proofs.YtcjifjfcjimefaaDoor.yf

/-
  PQRun: the walk.
-/
import Derived.Test.YtpddddjfjmipfaaDoorPqStep2
namespace Go.Proofs.YtpddddjfjmipfaaDoor.pq
open Go.RowKit Go.Proofs.YtpddddjfjmipfaaDoor.base Go.Proofs.YtpddddjfjmipfaaDoor.heap Go.Proofs.YtpddddjfjmipfaaDoor.rows
set_option linter.unusedVariables false

/-- a step that may be done -/
structure Okay (s : Stp) : Prop where
  op : 1 ≤ s.op ∧ s.op ≤ 5
  put : s.op = 1 → 1 ≤ s.m ∧ s.m ≤ 1000
  get : s.op = 2 → ∃ k : Nat, s.n = (k : Int) ∧ 1 ≤ k ∧ k ≤ 1000
  len : s.R.length = s.m
inductive Ran : List Stp → List An → List It → Prop
  | nil : Ran [] [] []
  | snoc {l : List Stp} {As : List An} {L : List It} {s : Stp} {x : An} {L' : List It} : Ran l As L → Stepped L s x L' → Ran (l ++ [s]) (As ++ [x]) L'
theorem Stepped.len {L L' : List It} {s : Stp} {x : An} (h : Stepped L s x L') (hs : s.R.length = s.m) : L'.length ≤ L.length + s.m := by
  rcases h with ⟨_, h, _⟩ | ⟨_, _, rfl, _⟩ | ⟨_, _, h, _⟩ | ⟨_, rfl, _⟩ | ⟨_, rfl, _⟩ | ⟨_, rfl, _⟩
  · have := h.length_eq; rw [List.length_append] at this; omega
  · omega
  · have := h.perm.length_eq; rw [List.length_append] at this; omega
  · omega
  · omega
  · omega
theorem Ran.len {l : List Stp} {As : List An} {L : List It} (h : Ran l As L) (hs : ∀ s ∈ l, s.R.length = s.m) : L.length ≤ (l.map (·.m)).sum := by
  induction h with
  | nil => simp
  | snoc h1 h2 ih =>
    have := h2.len (hs _ (by simp))
    have := ih (fun s hs' => hs s (by simp [hs']))
    simp; omega
theorem sum_take (l : List Stp) (k : Nat) (s : Stp) (h : l[k]? = some s) : ((l.take k).map (·.m)).sum + s.m ≤ (l.map (·.m)).sum := by
  have h1 := take_snoc l k s h
  have h2 : ((l.take (k + 1)).map (·.m)).sum + ((l.drop (k + 1)).map (·.m)).sum = (l.map (·.m)).sum := by
    rw [← List.sum_append, ← List.map_append, List.take_append_drop]
  rw [h1] at h2
  simp at h2 ⊢; omega

theorem _root_.Go.Proofs.YtpddddjfjmipfaaDoor.rows.RS.lt {α : Type} {c : α → List Value} {K : Nat} {w : World} {a : Option Addr} {n cap : Nat} {l : List α} (h : RS c K w a n cap l) (h0 : 0 < n) : ∀ j, At a j → j < w.heap.size := by
  obtain ⟨b, off, rfl, hb, _⟩ := h.1.cells h0
  intro j hj
  have : b = j := hj
  omega
section
variable {w : World} {ob mb : Nat} {a : Option Addr} {cap : Nat} {L : List It}
theorem stepAny (h : Q w ob mb a cap L) (hh : Heap L) (s : Stp) (ho : Okay s) (hr : RIt w s.a s.m s.cap s.R) (hl : L.length + s.m < 100000) (hap : 1 ≤ s.m → ∀ k, At s.a k → ¬ Fp ob mb a k) :
    Calls Tryd.prog 8 #[.pointer (some ⟨ob, 0, none⟩), .agg #[.int .i64 s.op, .int .i64 s.n, .slice s.a s.m s.cap]] w (StepPost w ob mb a L s) := by
  have h5 : s.op = 1 ∨ s.op = 2 ∨ s.op = 3 ∨ s.op = 4 ∨ s.op = 5 := by have := ho.op; omega
  rcases h5 with e | e | e | e | e
  · have := step1 h hh s e hr (ho.put e).1 (ho.put e).2 hl (hap (ho.put e).1)
    rw [e]; exact this
  · obtain ⟨k, hk, h1, h2⟩ := ho.get e
    rcases Nat.eq_zero_or_pos L.length with h0 | h0
    · have := step2e h hh s e (by omega) h0
      rw [e]; exact this
    · have := step2 h hh s e k hk h1 h2 h0 (by omega)
      rw [e]; exact this
  · have := step3 h hh s e
    rw [e]; exact this
  · have := step4 h hh s e
    rw [e]; exact this
  · have := step5 h hh s e
    rw [e]; exact this
end

/-- in the course of the run -/
structure Inv (w wr : World) (ob mb : Nat) (a : Option Addr) (cap : Nat) (L : List It) (l : List Stp) (oa : Option Addr) (k oc : Nat) (As : List An) : Prop where
  q : Q wr ob mb a cap L
  heap : Heap L
  out : OS 41 anc 4 wr oa k oc As
  its : ∀ x ∈ As, RIt wr x.a x.L.length x.cap x.L ∧ ∀ j, At x.a j → w.heap.size ≤ j ∧ j < wr.heap.size ∧ ¬ Fp ob mb a j ∧ ¬ At oa j
  new : ∀ j, Fp ob mb a j ∨ At oa j → w.heap.size ≤ j
  apart : ∀ j, At oa j → ¬ Fp ob mb a j
  same : Same w wr
  ran : Ran (l.take k) As L
def RunPost (w : World) (l : List Stp) (n : Nat) (e : Ending) (w' : World) : Prop :=
  ∃ oa oc As L, e = .returned (.slice oa n oc) ∧ RS anc 4 w' oa n oc As ∧ (∀ x ∈ As, RIt w' x.a x.L.length x.cap x.L ∧ ∀ j, At x.a j → w.heap.size ≤ j) ∧ (∀ j, At oa j → w.heap.size ≤ j) ∧ Ran l As L ∧ Same w w'

theorem slAn : SliceOf Tryd.prog 32 41 4 48 := SliceOf.mk (z := .agg #[.slice none 0 0, .int .i64 0, .bool false, .int .i64 0]) Tryd.underlying32 (by kernel_rfl) rfl

theorem Inv.step {w wr w2 w3 : World} {ob mb : Nat} {a a' oa oa2 : Option Addr} {cap cap' k oc oc2 : Nat} {L L' : List It} {l : List Stp} {As : List An} {s : Stp} {x : An} (h : Inv w wr ob mb a cap L l oa k oc As) (hk : l[k]? = some s)
    (hs : Same wr w2) (hn : Now w2 w3 ob mb a a' cap' L') (hst : Stepped L s x L') (hr : RIt w3 x.a x.L.length x.cap x.L) (hx : ∀ j, At x.a j → w2.heap.size ≤ j ∧ j < w3.heap.size ∧ ¬ Fp ob mb a' j)
    {o : Obj} {w4 : World} (hG : Grew 41 4 (w3.alloc o) w4 oa oa2 1 (k + 1) oc oc2 (As.flatMap anc ++ anc x)) :
    Inv w w4 ob mb a' cap' L' l oa2 (k + 1) oc2 (As ++ [x]) := by
  have hO4 : Only (At oa) w3 w4 := Only.trans (S := At oa) ((Only.refl (At oa) w3).alloc o) hG.only (fun _ _ h => h)
  have z1 := hs.size
  have z2 := hn.only.size
  have z3 := hO4.size
  have hoa : ∀ j, At oa j → j < wr.heap.size := h.out.1.lt
  have hfa' : ∀ j, Fp ob mb a' j → Fp ob mb a j ∨ w2.heap.size ≤ j := fun j hj => by
    rcases hj with e | e | hj
    · exact .inl (.inl e)
    · exact .inl (.inr (.inl e))
    · exact (hn.fresh j hj).imp (fun e => .inr (.inr e)) id
  have hap : ∀ j, At oa j → ¬ Fp ob mb a' j := fun j hj hf => by
    rcases hfa' j hf with h' | h'
    · exact h.apart j hj h'
    · have := hoa j hj; omega
  have hfr : ∀ j, At oa2 j → At oa j ∨ w3.heap.size + 1 ≤ j := fun j hj => (hG.fresh j hj).imp id (fun h' => by simpa using h')
  have hnl := hn.q.lt
  refine ⟨hn.q.keep hO4 (fun j hj hc => hap j hc hj), hn.heap, ⟨by rw [flat_snoc]; exact hG.own, by rw [List.length_append, h.out.2]; rfl⟩, fun y hy => ?_, fun j hj => ?_, fun j hj hf => ?_, ?_, ?_⟩
  · rcases List.mem_append.1 hy with hy | hy
    · obtain ⟨r1, r2⟩ := h.its y hy
      refine ⟨((r1.still hs).keep hn.only (fun j hj => (r2 j hj).2.2.1)).keep hO4 (fun j hj => (r2 j hj).2.2.2), fun j hj => ?_⟩
      obtain ⟨t1, t2, t3, t4⟩ := r2 j hj
      refine ⟨t1, by omega, fun hf => ?_, fun ho => ?_⟩
      · rcases hfa' j hf with h' | h'
        · exact t3 h'
        · omega
      · rcases hfr j ho with h' | h'
        · exact t4 h'
        · omega
    · simp at hy
      subst hy
      refine ⟨hr.keep hO4 (fun j hj ho => by have := hoa j ho; have := (hx j hj).1; omega), fun j hj => ?_⟩
      obtain ⟨t1, t2, t3⟩ := hx j hj
      have z0 := h.same.size
      refine ⟨by omega, by omega, t3, fun ho => ?_⟩
      rcases hfr j ho with h' | h'
      · have := hoa j h'; omega
      · omega
  · have z0 := h.same.size
    rcases hj with hj | hj
    · rcases hfa' j hj with h' | h'
      · exact h.new j (.inl h')
      · omega
    · rcases hfr j hj with h' | h'
      · exact h.new j (.inr h')
      · omega
  · rcases hfr j hj with h' | h'
    · exact hap j h' hf
    · have := hnl j hf; omega
  · have h1 : Only (fun j => w.heap.size ≤ j) wr w3 := Only.trans (S := fun j => w.heap.size ≤ j) (hs.mono (fun _ _ h => h.elim)) hn.only (fun j _ hj => h.new j (.inl hj))
    have h2 : Only (fun j => w.heap.size ≤ j) wr w4 := h1.trans hO4 (fun j _ hj => h.new j (.inr hj))
    exact new_only h.same h2 (fun j hj => hj)
  · rw [take_snoc l k s hk]
    exact .snoc h.ran hst

set_option maxRecDepth 100000 in
set_option maxHeartbeats 3200000 in
theorem pqRun (hint : Nat) (hh : hint ≤ 1000) (a : Option Addr) (n cap : Nat) (l : List Stp) (w : World) (hl : RS stc 3 w a n cap l) (hn : n ≤ 1000) (hs : ∀ s ∈ l, Okay s ∧ RIt w s.a s.m s.cap s.R) (htot : (l.map (·.m)).sum < 100000) :
    Calls Tryd.prog 4 #[.int .i64 (hint : Int), .bool true, .slice a n cap] w (RunPost w l n) := by
  have hbd := hl.bound
  have HR := Lib.hid hl
  have HS := Lib.hid hs
  have HT := Lib.hid htot
  have HN := Lib.hid (newQ hint hh w)
  clear hl hs htot
  go_enter Tryd.func4, Tryd.ntmps4
  go_wp2_with fail
  refine HN.out.mono ?_
  rintro e w1 ⟨ob, mb, qa, qc, rfl, hq, hs1, hnw⟩
  have HI0 : Hid (Inv w w1 ob mb qa qc [] l none 0 0 []) := Lib.hid ⟨hq, fun j h1 h2 => by simp at h2, OS.nil _ _ _ _, fun x hx => by simp at hx, fun j hj => hj.elim (hnw j) (fun h => h.elim), fun j hj => hj.elim, hs1, .nil⟩
  clear hq hs1 hnw HN
  go_wp2_with fail
  go_loopw [8, 16] (fun o i wr => ∃ (k : Nat) (qa : Option Addr) (qc : Nat) (L : List It) (oa : Option Addr) (oc : Nat) (As : List An), o = .slice oa k oc ∧ i = .int .i64 (k : Int) ∧ k ≤ n ∧ Hid (Inv w wr ob mb qa qc L l oa k oc As)) (fun _ i _ => n - (intOf i).toNat)
  case atStart => exact ⟨0, qa, qc, [], none, 0, [], rfl, rfl, Nat.zero_le _, HI0⟩
  case round =>
    clear HI0
    clear qa qc
    obtain ⟨k, qa, qc, L, oa, oc, As, rfl, rfl, hk, HI⟩ := hrel
    have hbo := HI.out.out.bound
    by_cases hlt : k < n
    · have hlt' : (k : Int) < (n : Int) := by omega
      obtain ⟨b, off, ha, hb, hc⟩ := (HR.out.still HI.out.same).at stc_len (by omega)
      obtain ⟨s, hsk⟩ := HR.out.get hlt
      have hc2 := hc k s hsk
      have c0 : wr.cell? ⟨b, off + k * 3, none⟩ = some (.int .i64 s.op) := hc2 0 _ rfl
      have c1 : wr.cell? ⟨b, off + k * 3 + 1, none⟩ = some (.int .i64 s.n) := hc2 1 _ rfl
      have c2 : wr.cell? ⟨b, off + k * 3 + 2, none⟩ = some (.slice s.a s.m s.cap) := hc2 2 _ rfl
      have HSK := Lib.hid hsk
      subst ha
      clear hc hc2 hsk
      have HP : Hid (∀ wx, Same wr wx → Calls Tryd.prog 8 #[.pointer (some ⟨ob, 0, none⟩), .agg #[.int .i64 s.op, .int .i64 s.n, .slice s.a s.m s.cap]] wx (StepPost wx ob mb qa L s)) := Lib.hid (fun wx hx => by
        obtain ⟨h1, h2⟩ := HS.out s (List.mem_of_getElem? HSK.out)
        refine stepAny (HI.out.q.still hx) HI.out.heap s h1 ((h2.still HI.out.same).still hx) ?_ (fun h0 j hj hf => ?_)
        · have := HI.out.ran.len (fun s hs' => (HS.out s (List.mem_of_mem_take hs')).1.len)
          have := sum_take l k s HSK.out
          have := HT.out
          omega
        · have := h2.lt h0 j hj
          have := HI.out.new j (.inl hf)
          omega)
      go_wp2_with fail
      have hS2 : Same wr (wr.alloc (.cells #[.int .i64 s.op, .int .i64 s.n, .slice s.a s.m s.cap] 35)) := (Only.refl _ _).alloc _
      refine (HP.out _ hS2).mono ?_
      rintro e w3 ⟨x, qa2, qc2, L2, rfl, hn3, hst, hrx, hxx⟩
      have HX : Hid (Same wr (wr.alloc (.cells #[.int .i64 s.op, .int .i64 s.n, .slice s.a s.m s.cap] 35)) ∧ Now (wr.alloc (.cells #[.int .i64 s.op, .int .i64 s.n, .slice s.a s.m s.cap] 35)) w3 ob mb qa qa2 qc2 L2 ∧ Stepped L s x L2 ∧ RIt w3 x.a x.L.length x.cap x.L ∧ ∀ j, At x.a j → (wr.alloc (.cells #[.int .i64 s.op, .int .i64 s.n, .slice s.a s.m s.cap] 35)).heap.size ≤ j ∧ j < w3.heap.size ∧ ¬ Fp ob mb qa2 j) := Lib.hid ⟨hS2, hn3, hst, hrx, hxx⟩
      have HOW : Hid (OS 41 anc 4 w3 oa k oc As) := Lib.hid ((HI.out.out.still hS2).keep hn3.only (fun j hj hf => HI.out.apart j hj hf))
      clear hS2 hn3 hst hrx hxx HP c0 c1 c2
      have hanc : (anc x).toArray = #[.slice x.a x.L.length x.cap, .int .i64 x.num, .bool x.is, .int .i64 x.err] := rfl
      rw [hanc]
      clear hanc
      go_wp2_with (at_builtin; refine wpList_append (k + 1) (As.flatMap anc ++ anc x) rfl _ _ _ _ rfl slAn rfl (HOW.out.1.keep (S := fun _ => False) (by repeat (first | exact Only.refl _ _ | apply Only.alloc | apply Only.drew)) (fun _ _ => id)) rfl (Src.row (size := 4) (cs := #[.slice x.a x.L.length x.cap, .int .i64 x.num, .bool x.is, .int .i64 x.err]) (t := 41) (fr := (0, 0)) Tryd.underlying32 (by exact heap_alloc_new _ _) 1 1 rfl (by simp [Value.oneCell'])) rfl rfl (by unfold maxLen; omega) (by omega) ?_)
      intro oa2 oc2 w4 hG
      have HI2 : Hid (Inv w w4 ob mb qa2 qc2 L2 l oa2 (k + 1) oc2 (As ++ [x])) := Lib.hid (HI.out.step HSK.out HX.out.1 HX.out.2.1 HX.out.2.2.1 HX.out.2.2.2.1 HX.out.2.2.2.2 hG)
      clear hG HX HOW
      go_wp2_with fail
      go_roundw
      case rel => exact ⟨k + 1, qa2, qc2, L2, oa2, oc2, _, rfl, by go_num, by omega, HI2⟩
      case measure => simp [intOf]; omega
    · have hlt' : ¬ (k : Int) < (n : Int) := by omega
      obtain rfl : k = n := by omega
      go_wp2_with fail
      go_ret
      have hi := HI.out
      have hr := hi.ran
      rw [List.take_of_length_le (by rw [HR.out.2]; exact Nat.le_refl _)] at hr
      exact ⟨oa, oc, As, L, rfl, hi.out.rs, fun x hx => ⟨(hi.its x hx).1, fun j hj => ((hi.its x hx).2 j hj).1⟩, fun j hj => hi.new j (.inr hj), hr, hi.same⟩
end Go.Proofs.YtpddddjfjmipfaaDoor.pq

/-
  BARun: the walk.
-/
import Derived.Test.YtacjkbljokjdkaaBaDoes
import Derived.Test.YtacjkbljokjdkaaSt
namespace Go.Proofs.Ytacjkbljokjdkaa.ba
open Go.RowKit Go.Proofs.Ytacjkbljokjdkaa.base Go.Proofs.Ytacjkbljokjdkaa.heap Go.Proofs.Ytacjkbljokjdkaa.rows Go.Proofs.Ytacjkbljokjdkaa.bit Go.Proofs.Ytacjkbljokjdkaa.bs
set_option linter.unusedVariables false

/-- steps, one behind the other, and their answers -/
def Runs : List BA → List Stp → List Ans → Prop
  | _, [], ys => ys = []
  | s, t :: ts, ys => s.length ≤ 1000 ∧ ∃ s1 an ys', Does s t s1 an ∧ ys = an :: ys' ∧ Runs s1 ts ys'
theorem Runs.len : ∀ {s : List BA} {ts : List Stp} {ys : List Ans}, Runs s ts ys → ys.length = ts.length
  | _, [], ys, h => by have h : ys = [] := h; subst h; rfl
  | _, t :: ts, ys, h => by
    obtain ⟨_, s1, an, ys', _, rfl, h2⟩ := h
    simp [h2.len]
/-- a step in memory -/
def stc (t : Stp) : List Value := [.int .i64 (t.op : Int), .int .i64 (t.on : Int), .int .i64 (t.by_ : Int), .int .u64 (t.k : Int), .int .i64 (t.most : Int), .bool t.all]
theorem stc_len (t : Stp) : (stc t).length = 6 := rfl
theorem stc_one (t : Stp) : ∀ u ∈ stc t, u.oneCell' = true := by intro u hu; simp [stc] at hu; rcases hu with rfl | rfl | rfl | rfl | rfl | rfl <;> rfl
/-- an answer in memory: where its numbers stand -/
structure An3 where
  an : Ans
  na : Option Addr
  nc : Nat
def anc (x : An3) : List Value := [.bool x.an.yes, .int .u64 (x.an.n : Int), .slice x.na x.an.nums.length x.nc, .bool false]
theorem anc_len (x : An3) : (anc x).length = 4 := rfl
theorem anc_one (x : An3) : ∀ u ∈ anc x, u.oneCell' = true := by intro u hu; simp [anc] at hu; rcases hu with rfl | rfl | rfl | rfl <;> rfl
theorem slAns : SliceOf Try.prog 43 46 4 48 := SliceOf.mk (z := .agg #[.bool false, .int .u64 0, .slice none 0 0, .bool false]) Try.underlying43 (by kernel_rfl) rfl

/-- in the course of the run -/
structure Inv (w wr : World) (q : Nat) (a : Option Addr) (c : Nat) (l : List It) (ts : List Stp) (ys : List Ans) (oa : Option Addr) (k oc : Nat) (As : List An3) : Prop where
  st : Sta wr q a c l
  out : OS 46 anc 4 wr oa k oc As
  its : ∀ x ∈ As, Own 24 1 wr x.na x.an.nums.length x.nc (U x.an.nums) ∧ ∀ j, At x.na j → w.heap.size ≤ j ∧ j < wr.heap.size ∧ ¬ Fo q a l j ∧ ¬ At oa j
  new : ∀ j, Fo q a l j ∨ At oa j → w.heap.size ≤ j
  apart : ∀ j, At oa j → ¬ Fo q a l j
  same : Same w wr
  ran : ∃ ys', Runs (l.map (·.d)) (ts.drop k) ys' ∧ ys = As.map (·.an) ++ ys'
def RunP (ys : List Ans) (w : World) (e : Ending) (w' : World) : Prop :=
  ∃ oa oc As, e = .returned (.slice oa ys.length oc) ∧ RS anc 4 w' oa ys.length oc As ∧ As.map (·.an) = ys ∧ (∀ x ∈ As, Own 24 1 w' x.na x.an.nums.length x.nc (U x.an.nums) ∧ ∀ j, At x.na j → w.heap.size ≤ j) ∧ (∀ j, At oa j → w.heap.size ≤ j) ∧ Same w w'

theorem Inv.step {w wr w2 w3 w4 : World} {q : Nat} {a oa oa2 : Option Addr} {c k oc oc2 : Nat} {l : List It} {ts : List Stp} {ys ys' : List Ans} {s1 : List BA} {As : List An3} {an : Ans} (h : Inv w wr q a c l ts ys oa k oc As)
    (hs : Same wr w2) {na : Option Addr} {nc : Nat} {a' : Option Addr} {c' : Nat} {l' : List It} (hst : Sta w3 q a' c' l') (hl' : l'.map (·.d) = s1) (ho : Only (Fo q a l) w2 w3) (hfr : ∀ k, Fo q a' l' k → Fo q a l k ∨ w2.heap.size ≤ k)
    (hown : Own 24 1 w3 na an.nums.length nc (U an.nums)) (hna : ∀ k, At na k → w2.heap.size ≤ k ∧ ¬ Fo q a' l' k) (hran : Runs s1 (ts.drop (k + 1)) ys') (has : ys = As.map (·.an) ++ (an :: ys'))
    {o : Obj} (hG : Grew 46 4 (w3.alloc o) w4 oa oa2 1 (k + 1) oc oc2 (As.flatMap anc ++ anc ⟨an, na, nc⟩)) :
    Inv w w4 q a' c' l' ts ys oa2 (k + 1) oc2 (As ++ [⟨an, na, nc⟩]) := by
  have hO4 : Only (At oa) w3 w4 := Only.trans (S := At oa) ((Only.refl (At oa) w3).alloc o) hG.only (fun _ _ h => h)
  have z0 := h.same.size
  have z1 := hs.size
  have z2 := ho.size
  have z3 := hO4.size
  have hoa : ∀ j, At oa j → j < wr.heap.size := h.out.1.lt
  have hap : ∀ j, At oa j → ¬ Fo q a' l' j := fun j hj hf => by
    rcases hfr j hf with h' | h'
    · exact h.apart j hj h'
    · have := hoa j hj; omega
  have hfr2 : ∀ j, At oa2 j → At oa j ∨ w3.heap.size + 1 ≤ j := fun j hj => (hG.fresh j hj).imp id (fun h' => by simpa using h')
  have hnl := hst.lt
  refine ⟨hst.keep hO4 (fun j hj hc => hap j hc hj), ⟨by rw [flat_snoc]; exact hG.own, by rw [List.length_append, h.out.2]; rfl⟩, fun y hy => ?_, fun j hj => ?_, fun j hj hf => ?_, ?_, ⟨ys', by rw [hl']; exact hran, by rw [has]; simp⟩⟩
  · rcases List.mem_append.1 hy with hy | hy
    · obtain ⟨r1, r2⟩ := h.its y hy
      refine ⟨((r1.keep hs (fun _ _ => id)).keep ho (fun j hj => (r2 j hj).2.2.1)).keep hO4 (fun j hj => (r2 j hj).2.2.2), fun j hj => ?_⟩
      obtain ⟨t1, t2, t3, t4⟩ := r2 j hj
      refine ⟨t1, by omega, fun hf => ?_, fun ho => ?_⟩
      · rcases hfr j hf with h' | h'
        · exact t3 h'
        · omega
      · rcases hfr2 j ho with h' | h'
        · exact t4 h'
        · omega
    · simp at hy
      subst hy
      refine ⟨hown.keep hO4 (fun j hj ho => by have := hoa j ho; have := (hna j hj).1; omega), fun j hj => ?_⟩
      obtain ⟨t1, t2⟩ := hna j hj
      have t3 := hown.lt j hj
      refine ⟨by omega, by omega, t2, fun ho => ?_⟩
      rcases hfr2 j ho with h' | h'
      · have := hoa j h'; omega
      · omega
  · rcases hj with hj | hj
    · rcases hfr j hj with h' | h'
      · exact h.new j (.inl h')
      · omega
    · rcases hfr2 j hj with h' | h'
      · exact h.new j (.inr h')
      · omega
  · rcases hfr2 j hj with h' | h'
    · exact hap j h' hf
    · have := hnl j hf; omega
  · have h1 : Only (fun j => w.heap.size ≤ j) wr w3 := Only.trans (S := fun j => w.heap.size ≤ j) (hs.mono (fun _ _ h => h.elim)) ho (fun j _ hj => h.new j (.inl hj))
    have h2 : Only (fun j => w.heap.size ≤ j) wr w4 := h1.trans hO4 (fun j _ hj => h.new j (.inr hj))
    exact new_only h.same h2 (fun j hj => hj)

theorem sta_new (w : World) : Sta (w.alloc (.cells #[.slice none 0 0] 58)) w.heap.size none 0 [] :=
  ⟨heap_alloc_new _ _, Own.nil _ _ _, id, fun x hx => by simp at hx, List.Pairwise.nil⟩

set_option maxRecDepth 100000 in
set_option maxHeartbeats 3200000 in
theorem baRun (a : Option Addr) (n cap : Nat) (ts : List Stp) (ys : List Ans) (w : World) (hl : RS stc 6 w a n cap ts) (hn : n ≤ 1000) (hr : Runs [] ts ys) :
    Calls Try.prog 22 #[.slice a n cap] w (RunP ys w) := by
  have hbd := hl.bound
  have HR := Lib.hid hl
  have HLEN : Hid (ys.length = n) := Lib.hid (by rw [hr.len, hl.2])
  have HI0 : Hid (Inv w (w.alloc (.cells #[.slice none 0 0] 58)) w.heap.size none 0 [] ts ys none 0 0 []) := Lib.hid ⟨sta_new w, OS.nil _ _ _ _, fun x hx => by simp at hx, fun j hj => by
    rcases hj with (rfl | h | ⟨x, hx, _⟩) | h
    · exact Nat.le_refl _
    · exact h.elim
    · simp at hx
    · exact h.elim, fun j hj => hj.elim, (Only.refl _ _).alloc _, ⟨ys, hr, rfl⟩⟩
  obtain ⟨q, hq⟩ : ∃ q, w.heap.size = q := ⟨_, rfl⟩
  rw [hq] at HI0
  clear hl hr
  go_enter Try.func22, Try.ntmps22
  go_wp2_with fail
  try rw [hq]
  clear hq
  go_loopw [4, 11] (fun o i wr => ∃ (k : Nat) (qa : Option Addr) (qc : Nat) (l : List It) (oa : Option Addr) (oc : Nat) (As : List An3), o = .slice oa k oc ∧ i = .int .i64 (k : Int) ∧ k ≤ n ∧ Hid (Inv w wr q qa qc l ts ys oa k oc As)) (fun _ i _ => n - (intOf i).toNat)
  case atStart => exact ⟨0, none, 0, [], none, 0, [], rfl, rfl, Nat.zero_le _, HI0⟩
  case round =>
    clear HI0
    obtain ⟨k, qa, qc, l, oa, oc, As, rfl, rfl, hk, HI⟩ := hrel
    have hbo := HI.out.out.bound
    by_cases hlt : k < n
    · have hlt' : (k : Int) < (n : Int) := by omega
      obtain ⟨b, off, ha, hb, hc⟩ := (HR.out.still HI.out.same).at stc_len (by omega)
      obtain ⟨t, htk⟩ := HR.out.get hlt
      have hc2 := hc k t htk
      have c0 : wr.cell? ⟨b, off + k * 6, none⟩ = some (.int .i64 (t.op : Int)) := hc2 0 _ rfl
      have c1 : wr.cell? ⟨b, off + k * 6 + 1, none⟩ = some (.int .i64 (t.on : Int)) := hc2 1 _ rfl
      have c2 : wr.cell? ⟨b, off + k * 6 + 2, none⟩ = some (.int .i64 (t.by_ : Int)) := hc2 2 _ rfl
      have c3 : wr.cell? ⟨b, off + k * 6 + 3, none⟩ = some (.int .u64 (t.k : Int)) := hc2 3 _ rfl
      have c4 : wr.cell? ⟨b, off + k * 6 + 4, none⟩ = some (.int .i64 (t.most : Int)) := hc2 4 _ rfl
      have c5 : wr.cell? ⟨b, off + k * 6 + 5, none⟩ = some (.bool t.all) := hc2 5 _ rfl
      have hdr : ts.drop k = t :: ts.drop (k + 1) := List.drop_eq_getElem?_toList_append.trans (by rw [htk]; rfl)
      obtain ⟨ys0, hr0, hy0⟩ := HI.out.ran
      rw [hdr] at hr0
      obtain ⟨hln, s1, an, ys', hdo, rfl, hr1⟩ := hr0
      have HP : Hid (∀ wx, Same wr wx → Calls Try.prog 24 #[.pointer (some ⟨q, 0, none⟩), .agg #[.int .i64 (t.op : Int), .int .i64 (t.on : Int), .int .i64 (t.by_ : Int), .int .u64 (t.k : Int), .int .i64 (t.most : Int), .bool t.all]] wx (StepP q qa l s1 an wx)) := Lib.hid (fun wx hx => hdo wx q qc qa l (HI.out.st.still hx) rfl (by simpa using hln))
      have HY := Lib.hid (And.intro hr1 hy0)
      subst ha
      clear hc hc2 htk hdr hdo hr1 hy0 hln
      go_wp2_with fail
      have hS2 : Same wr (wr.alloc (.cells #[.int .i64 (t.op : Int), .int .i64 (t.on : Int), .int .i64 (t.by_ : Int), .int .u64 (t.k : Int), .int .i64 (t.most : Int), .bool t.all] 27)) := (Only.refl _ _).alloc _
      refine (HP.out _ hS2).mono ?_
      rintro e w3 ⟨na, nc, qa2, qc2, l2, rfl, hst, hl2, ho3, hfr, hown, hna⟩
      have HX := Lib.hid (fun o w4 oa2 oc2 hG => Inv.step (w4 := w4) (oa2 := oa2) (oc2 := oc2) (o := o) HI.out hS2 hst hl2 ho3 hfr hown hna HY.out.1 HY.out.2 hG)
      have HOW : Hid (OS 46 anc 4 w3 oa k oc As) := Lib.hid ((HI.out.out.still hS2).keep ho3 (fun j hj hf => HI.out.apart j hj hf))
      clear hS2 hst hl2 ho3 hfr hown hna HP c0 c1 c2 c3 c4 c5
      unfold anv
      go_wp2_with (at_builtin; refine wpList_append (k + 1) (As.flatMap anc ++ anc ⟨an, na, nc⟩) rfl _ _ _ _ rfl slAns rfl (HOW.out.1.keep (S := fun _ => False) (by repeat (first | exact Only.refl _ _ | apply Only.alloc | apply Only.drew)) (fun _ _ => id)) rfl (Src.row (size := 4) (cs := #[.bool an.yes, .int .u64 (an.n : Int), .slice na an.nums.length nc, .bool false]) (t := 46) (fr := (0, 0)) Try.underlying43 (by exact heap_alloc_new _ _) 1 1 rfl (by simp [Value.oneCell'])) rfl rfl (by unfold maxLen; omega) (by omega) ?_)
      intro oa2 oc2 w4 hG
      have HI2 := Lib.hid (HX.out _ _ _ _ hG)
      clear hG HX HOW
      go_wp2_with fail
      go_roundw
      case rel => exact ⟨k + 1, qa2, qc2, l2, oa2, oc2, _, rfl, by go_num, by omega, HI2⟩
      case measure => simp [intOf]; omega
    · have hlt' : ¬ (k : Int) < (n : Int) := by omega
      obtain rfl : k = n := by omega
      go_wp2_with fail
      go_ret
      have hi := HI.out
      obtain ⟨ys0, hr0, hy0⟩ := hi.ran
      rw [List.drop_of_length_le (by rw [HR.out.2]; exact Nat.le_refl _)] at hr0
      have hr0 : ys0 = [] := hr0
      subst hr0
      rw [List.append_nil] at hy0
      have hlen := HLEN.out
      unfold RunP
      rw [hlen]
      exact ⟨oa, oc, As, rfl, hi.out.rs, hy0.symm, fun x hx => ⟨(hi.its x hx).1, fun j hj => ((hi.its x hx).2 j hj).1⟩, fun j hj => hi.new j (.inr hj), hi.same⟩
end Go.Proofs.Ytacjkbljokjdkaa.ba

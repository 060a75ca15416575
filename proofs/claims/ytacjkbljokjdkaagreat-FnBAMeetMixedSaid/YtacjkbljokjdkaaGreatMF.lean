/-
  What the proofs of this claim share, part 6 of 8: small laws and walks of the functions that it reaches.
-/
import Derived.Test.YtacjkbljokjdkaaGreatME
import Derived.BigQuiet
import Derived.BigRegion
import Derived.Deep.RegionLaw
namespace Go.Proofs.YtacjkbljokjdkaaGreat.ba
open Go.RowKit Go.Proofs.YtacjkbljokjdkaaGreat.base Go.Proofs.YtacjkbljokjdkaaGreat.heap Go.Proofs.YtacjkbljokjdkaaGreat.rows Go.Proofs.YtacjkbljokjdkaaGreat.bit Go.Proofs.YtacjkbljokjdkaaGreat.bs
set_option linter.unusedVariables false

/-- steps, one behind the other, and their answers -/
def Runs : List BA → List Stp → List Ans → Prop
  | _, [], ys => ys = []
  | s, t :: ts, ys => s.length ≤ 1000 ∧ ∃ s1 an ys', Does s t s1 an ∧ ys = an :: ys' ∧ Runs s1 ts ys'
theorem Runs.len : ∀ {s : List BA} {ts : List Stp} {ys : List Ans}, Runs s ts ys → ys.length = ts.length
  | _, [], ys, h => by have h : ys = [] := h; subst h; rfl
  | _, t :: ts, ys, h => by
    obtain ⟨_, s1, an, ys', _, rfl, h2⟩ := h
    simp [h2.len]
/-- a step in memory -/
def stc (t : Stp) : List Value := [.int .i64 (t.op : Int), .int .i64 (t.on : Int), .int .i64 (t.by_ : Int), .int .u64 (t.k : Int), .int .i64 (t.most : Int), .bool t.all]
theorem stc_len (t : Stp) : (stc t).length = 6 := rfl
theorem stc_one (t : Stp) : ∀ u ∈ stc t, u.oneCell' = true := by intro u hu; simp [stc] at hu; rcases hu with rfl | rfl | rfl | rfl | rfl | rfl <;> rfl
/-- an answer in memory: where its numbers stand -/
structure An3 where
  an : Ans
  na : Option Addr
  nc : Nat
def anc (x : An3) : List Value := [.bool x.an.yes, .int .u64 (x.an.n : Int), .slice x.na x.an.nums.length x.nc, .bool false]
theorem anc_len (x : An3) : (anc x).length = 4 := rfl
theorem anc_one (x : An3) : ∀ u ∈ anc x, u.oneCell' = true := by intro u hu; simp [anc] at hu; rcases hu with rfl | rfl | rfl | rfl <;> rfl
theorem slAns : SliceOf Tryz.prog 41 44 4 48 := SliceOf.mk (z := .agg #[.bool false, .int .u64 0, .slice none 0 0, .bool false]) Tryz.underlying41 (by kernel_rfl) rfl

/-- in the course of the run -/
structure Inv (w wr : World) (q : Nat) (a : Option Addr) (c : Nat) (l : List It) (ts : List Stp) (ys : List Ans) (oa : Option Addr) (k oc : Nat) (As : List An3) : Prop where
  st : Sta wr q a c l
  out : OS 44 anc 4 wr oa k oc As
  its : ∀ x ∈ As, Own 34 1 wr x.na x.an.nums.length x.nc (U x.an.nums) ∧ ∀ j, At x.na j → w.heap.size ≤ j ∧ j < wr.heap.size ∧ ¬ Fo q a l j ∧ ¬ At oa j
  new : ∀ j, Fo q a l j ∨ At oa j → w.heap.size ≤ j
  apart : ∀ j, At oa j → ¬ Fo q a l j
  same : Same w wr
  ran : ∃ ys', Runs (l.map (·.d)) (ts.drop k) ys' ∧ ys = As.map (·.an) ++ ys'
def RunP (ys : List Ans) (w : World) (e : Ending) (w' : World) : Prop :=
  ∃ oa oc As, e = .returned (.slice oa ys.length oc) ∧ RS anc 4 w' oa ys.length oc As ∧ As.map (·.an) = ys ∧ (∀ x ∈ As, Own 34 1 w' x.na x.an.nums.length x.nc (U x.an.nums) ∧ ∀ j, At x.na j → w.heap.size ≤ j) ∧ (∀ j, At oa j → w.heap.size ≤ j) ∧ Same w w'

theorem Inv.step {w wr w2 w3 w4 : World} {q : Nat} {a oa oa2 : Option Addr} {c k oc oc2 : Nat} {l : List It} {ts : List Stp} {ys ys' : List Ans} {s1 : List BA} {As : List An3} {an : Ans} (h : Inv w wr q a c l ts ys oa k oc As)
    (hs : Same wr w2) {na : Option Addr} {nc : Nat} {a' : Option Addr} {c' : Nat} {l' : List It} (hst : Sta w3 q a' c' l') (hl' : l'.map (·.d) = s1) (ho : Only (Fo q a l) w2 w3) (hfr : ∀ k, Fo q a' l' k → Fo q a l k ∨ w2.heap.size ≤ k)
    (hown : Own 34 1 w3 na an.nums.length nc (U an.nums)) (hna : ∀ k, At na k → w2.heap.size ≤ k ∧ ¬ Fo q a' l' k) (hran : Runs s1 (ts.drop (k + 1)) ys') (has : ys = As.map (·.an) ++ (an :: ys'))
    {o : Obj} (hG : Grew 44 4 (w3.alloc o) w4 oa oa2 1 (k + 1) oc oc2 (As.flatMap anc ++ anc ⟨an, na, nc⟩)) :
    Inv w w4 q a' c' l' ts ys oa2 (k + 1) oc2 (As ++ [⟨an, na, nc⟩]) := by
  have hO4 : Only (At oa) w3 w4 := Only.trans (S := At oa) ((Only.refl (At oa) w3).alloc o) hG.only (fun _ _ h => h)
  have z0 := h.same.size
  have z1 := hs.size
  have z2 := ho.size
  have z3 := hO4.size
  have hoa : ∀ j, At oa j → j < wr.heap.size := h.out.1.lt
  have hap : ∀ j, At oa j → ¬ Fo q a' l' j := fun j hj hf => by
    rcases hfr j hf with h' | h'
    · exact h.apart j hj h'
    · have := hoa j hj; omega
  have hfr2 : ∀ j, At oa2 j → At oa j ∨ w3.heap.size + 1 ≤ j := fun j hj => (hG.fresh j hj).imp id (fun h' => by simpa using h')
  have hnl := hst.lt
  refine ⟨hst.keep hO4 (fun j hj hc => hap j hc hj), ⟨by rw [flat_snoc]; exact hG.own, by rw [List.length_append, h.out.2]; rfl⟩, fun y hy => ?_, fun j hj => ?_, fun j hj hf => ?_, ?_, ⟨ys', by rw [hl']; exact hran, by rw [has]; simp⟩⟩
  · rcases List.mem_append.1 hy with hy | hy
    · obtain ⟨r1, r2⟩ := h.its y hy
      refine ⟨((r1.keep hs (fun _ _ => id)).keep ho (fun j hj => (r2 j hj).2.2.1)).keep hO4 (fun j hj => (r2 j hj).2.2.2), fun j hj => ?_⟩
      obtain ⟨t1, t2, t3, t4⟩ := r2 j hj
      refine ⟨t1, by omega, fun hf => ?_, fun ho => ?_⟩
      · rcases hfr j hf with h' | h'
        · exact t3 h'
        · omega
      · rcases hfr2 j ho with h' | h'
        · exact t4 h'
        · omega
    · simp at hy
      subst hy
      refine ⟨hown.keep hO4 (fun j hj ho => by have := hoa j ho; have := (hna j hj).1; omega), fun j hj => ?_⟩
      obtain ⟨t1, t2⟩ := hna j hj
      have t3 := hown.lt j hj
      refine ⟨by omega, by omega, t2, fun ho => ?_⟩
      rcases hfr2 j ho with h' | h'
      · have := hoa j h'; omega
      · omega
  · rcases hj with hj | hj
    · rcases hfr j hj with h' | h'
      · exact h.new j (.inl h')
      · omega
    · rcases hfr2 j hj with h' | h'
      · exact h.new j (.inr h')
      · omega
  · rcases hfr2 j hj with h' | h'
    · exact hap j h' hf
    · have := hnl j hf; omega
  · have h1 : Only (fun j => w.heap.size ≤ j) wr w3 := Only.trans (S := fun j => w.heap.size ≤ j) (hs.mono (fun _ _ h => h.elim)) ho (fun j _ hj => h.new j (.inl hj))
    have h2 : Only (fun j => w.heap.size ≤ j) wr w4 := h1.trans hO4 (fun j _ hj => h.new j (.inr hj))
    exact new_only h.same h2 (fun j hj => hj)

theorem sta_new (w : World) : Sta (w.alloc (.cells #[.slice none 0 0] 53)) w.heap.size none 0 [] :=
  ⟨heap_alloc_new _ _, Own.nil _ _ _, id, fun x hx => by simp at hx, List.Pairwise.nil⟩

set_option maxRecDepth 100000 in
set_option maxHeartbeats 3200000 in
theorem baRun (a : Option Addr) (n cap : Nat) (ts : List Stp) (ys : List Ans) (w : World) (hl : RS stc 6 w a n cap ts) (hn : n ≤ 1000) (hr : Runs [] ts ys) :
    Calls Tryz.prog 27 #[.slice a n cap] w (RunP ys w) := by
  have hbd := hl.bound
  have HR := Lib.hid hl
  have HLEN : Hid (ys.length = n) := Lib.hid (by rw [hr.len, hl.2])
  have HI0 : Hid (Inv w (w.alloc (.cells #[.slice none 0 0] 53)) w.heap.size none 0 [] ts ys none 0 0 []) := Lib.hid ⟨sta_new w, OS.nil _ _ _ _, fun x hx => by simp at hx, fun j hj => by
    rcases hj with (rfl | h | ⟨x, hx, _⟩) | h
    · exact Nat.le_refl _
    · exact h.elim
    · simp at hx
    · exact h.elim, fun j hj => hj.elim, (Only.refl _ _).alloc _, ⟨ys, hr, rfl⟩⟩
  obtain ⟨q, hq⟩ : ∃ q, w.heap.size = q := ⟨_, rfl⟩
  rw [hq] at HI0
  clear hl hr
  go_enter Tryz.func27, Tryz.ntmps27
  go_wp2_with fail
  try rw [hq]
  clear hq
  go_loopw [4, 11] (fun o i wr => ∃ (k : Nat) (qa : Option Addr) (qc : Nat) (l : List It) (oa : Option Addr) (oc : Nat) (As : List An3), o = .slice oa k oc ∧ i = .int .i64 (k : Int) ∧ k ≤ n ∧ Hid (Inv w wr q qa qc l ts ys oa k oc As)) (fun _ i _ => n - (intOf i).toNat)
  case atStart => exact ⟨0, none, 0, [], none, 0, [], rfl, rfl, Nat.zero_le _, HI0⟩
  case round =>
    clear HI0
    obtain ⟨k, qa, qc, l, oa, oc, As, rfl, rfl, hk, HI⟩ := hrel
    have hbo := HI.out.out.bound
    by_cases hlt : k < n
    · have hlt' : (k : Int) < (n : Int) := by omega
      obtain ⟨b, off, ha, hb, hc⟩ := (HR.out.still HI.out.same).at stc_len (by omega)
      obtain ⟨t, htk⟩ := HR.out.get hlt
      have hc2 := hc k t htk
      have c0 : wr.cell? ⟨b, off + k * 6, none⟩ = some (.int .i64 (t.op : Int)) := hc2 0 _ rfl
      have c1 : wr.cell? ⟨b, off + k * 6 + 1, none⟩ = some (.int .i64 (t.on : Int)) := hc2 1 _ rfl
      have c2 : wr.cell? ⟨b, off + k * 6 + 2, none⟩ = some (.int .i64 (t.by_ : Int)) := hc2 2 _ rfl
      have c3 : wr.cell? ⟨b, off + k * 6 + 3, none⟩ = some (.int .u64 (t.k : Int)) := hc2 3 _ rfl
      have c4 : wr.cell? ⟨b, off + k * 6 + 4, none⟩ = some (.int .i64 (t.most : Int)) := hc2 4 _ rfl
      have c5 : wr.cell? ⟨b, off + k * 6 + 5, none⟩ = some (.bool t.all) := hc2 5 _ rfl
      have hdr : ts.drop k = t :: ts.drop (k + 1) := List.drop_eq_getElem?_toList_append.trans (by rw [htk]; rfl)
      obtain ⟨ys0, hr0, hy0⟩ := HI.out.ran
      rw [hdr] at hr0
      obtain ⟨hln, s1, an, ys', hdo, rfl, hr1⟩ := hr0
      have HP : Hid (∀ wx, Same wr wx → Calls Tryz.prog 29 #[.pointer (some ⟨q, 0, none⟩), .agg #[.int .i64 (t.op : Int), .int .i64 (t.on : Int), .int .i64 (t.by_ : Int), .int .u64 (t.k : Int), .int .i64 (t.most : Int), .bool t.all]] wx (StepP q qa l s1 an wx)) := Lib.hid (fun wx hx => hdo wx q qc qa l (HI.out.st.still hx) rfl (by simpa using hln))
      have HY := Lib.hid (And.intro hr1 hy0)
      subst ha
      clear hc hc2 htk hdr hdo hr1 hy0 hln
      go_wp2_with fail
      have hS2 : Same wr (wr.alloc (.cells #[.int .i64 (t.op : Int), .int .i64 (t.on : Int), .int .i64 (t.by_ : Int), .int .u64 (t.k : Int), .int .i64 (t.most : Int), .bool t.all] 40)) := (Only.refl _ _).alloc _
      refine (HP.out _ hS2).mono ?_
      rintro e w3 ⟨na, nc, qa2, qc2, l2, rfl, hst, hl2, ho3, hfr, hown, hna⟩
      have HX := Lib.hid (fun o w4 oa2 oc2 hG => Inv.step (w4 := w4) (oa2 := oa2) (oc2 := oc2) (o := o) HI.out hS2 hst hl2 ho3 hfr hown hna HY.out.1 HY.out.2 hG)
      have HOW : Hid (OS 44 anc 4 w3 oa k oc As) := Lib.hid ((HI.out.out.still hS2).keep ho3 (fun j hj hf => HI.out.apart j hj hf))
      clear hS2 hst hl2 ho3 hfr hown hna HP c0 c1 c2 c3 c4 c5
      unfold anv
      go_wp2_with (at_builtin; refine wpList_append (k + 1) (As.flatMap anc ++ anc ⟨an, na, nc⟩) rfl _ _ _ _ rfl slAns rfl (HOW.out.1.keep (S := fun _ => False) (by repeat (first | exact Only.refl _ _ | apply Only.alloc | apply Only.drew)) (fun _ _ => id)) rfl (Src.row (size := 4) (cs := #[.bool an.yes, .int .u64 (an.n : Int), .slice na an.nums.length nc, .bool false]) (t := 44) (fr := (0, 0)) Tryz.underlying41 (by exact heap_alloc_new _ _) 1 1 rfl (by simp [Value.oneCell'])) rfl rfl (by unfold maxLen; omega) (by omega) ?_)
      intro oa2 oc2 w4 hG
      have HI2 := Lib.hid (HX.out _ _ _ _ hG)
      clear hG HX HOW
      go_wp2_with fail
      go_roundw
      case rel => exact ⟨k + 1, qa2, qc2, l2, oa2, oc2, _, rfl, by go_num, by omega, HI2⟩
      case measure => simp [intOf]; omega
    · have hlt' : ¬ (k : Int) < (n : Int) := by omega
      obtain rfl : k = n := by omega
      go_wp2_with fail
      go_ret
      have hi := HI.out
      obtain ⟨ys0, hr0, hy0⟩ := hi.ran
      rw [List.drop_of_length_le (by rw [HR.out.2]; exact Nat.le_refl _)] at hr0
      have hr0 : ys0 = [] := hr0
      subst hr0
      rw [List.append_nil] at hy0
      have hlen := HLEN.out
      unfold RunP
      rw [hlen]
      exact ⟨oa, oc, As, rfl, hi.out.rs, hy0.symm, fun x hx => ⟨(hi.its x hx).1, fun j hj => ((hi.its x hx).2 j hj).1⟩, fun j hj => hi.new j (.inr hj), hi.same⟩
end Go.Proofs.YtacjkbljokjdkaaGreat.ba
namespace Go.Proofs.YtacjkbljokjdkaaGreat.ba
open Go.RowKit Go.Proofs.YtacjkbljokjdkaaGreat.base Go.Proofs.YtacjkbljokjdkaaGreat.heap Go.Proofs.YtacjkbljokjdkaaGreat.rows Go.Proofs.YtacjkbljokjdkaaGreat.bit Go.Proofs.YtacjkbljokjdkaaGreat.bs
set_option linter.unusedVariables false
/-- a number -/
abbrev uv (x : Nat) : Value := .int .u64 (x : Int)
section
variable {w : World} {a : Option Addr} {n cap : Nat} {l : List Nat}
set_option maxRecDepth 100000 in
set_option maxHeartbeats 1600000 in
theorem baAt (h : RL uv w a n cap l) (K : Nat) : Calls Tryz.prog 28 #[.slice a n cap, uv K] w (FV w (.int .i64 (at_ l K : Nat))) := by
  have hbd := h.bound
  have H := Lib.hid h
  obtain ⟨m, hm⟩ : ∃ m, at_ l K = m := ⟨_, rfl⟩
  have hmn : m ≤ n := by rw [← hm, ← h.2]; exact at_le l K
  have HB : Hid (∀ i x, i < m → l[i]? = some x → x < K) := Lib.hid (by rw [← hm]; exact at_below l K)
  have HS : Hid (∀ x, l[m]? = some x → K ≤ x) := Lib.hid (by rw [← hm]; exact at_stop l K)
  rw [hm]
  unfold uv
  clear h hm
  go_enter Tryz.func28, Tryz.ntmps28
  go_wp2_with fail
  go_loopw [5] (fun i wr => ∃ k : Nat, k ≤ m ∧ i = .int .i64 (k : Int) ∧ Hid (Same w wr)) (fun i _ => n - (intOf i).toNat)
  case atStart => exact ⟨0, Nat.zero_le _, rfl, Lib.hid (Only.refl _ _)⟩
  case round =>
    obtain ⟨k, hk, rfl, HO⟩ := hrel
    by_cases hlt : k < n
    · have hlt' : (k : Int) < (n : Int) := by omega
      have hk0 : (0 : Int) ≤ (k : Int) := by omega
      obtain ⟨b, off, ha, hb, hc⟩ := (H.out.still HO.out).at (by omega)
      obtain ⟨x, hx⟩ := H.out.get hlt
      have c0 := hc k x hx
      subst ha
      by_cases hkm : k < m
      · have hxK : (x : Int) < (K : Int) := by have := HB.out k x hkm hx; omega
        clear hx hc
        go_wp2_with fail
        go_roundw
        case rel => exact ⟨k + 1, by omega, by go_num, Lib.hid HO.out⟩
        case measure => simp [intOf]; omega
      · obtain rfl : k = m := by omega
        have hxK : ¬ (x : Int) < (K : Int) := by have := HS.out x hx; omega
        clear hx hc
        go_wp2_with fail
        go_ret
        exact ⟨rfl, HO.out⟩
    · have hlt' : ¬ (k : Int) < (n : Int) := by omega
      obtain rfl : k = m := by omega
      go_wp2_with fail
      go_ret
      exact ⟨rfl, HO.out⟩
set_option maxRecDepth 100000 in
set_option maxHeartbeats 1600000 in
theorem baHas (h : RL uv w a n cap l) (hs : Asc l) (K : Nat) : Calls Tryz.prog 23 #[.slice a n cap, uv K] w (FV w (.bool (decide (K ∈ l)))) := by
  have hbd := h.bound
  have HA := Lib.hid (baAt h K)
  have H := Lib.hid h
  have hmem := mem_at hs (k := K)
  obtain ⟨m, hm⟩ : ∃ m, at_ l K = m := ⟨_, rfl⟩
  rw [hm] at HA hmem
  have HM := Lib.hid hmem
  have hmn : m ≤ n := by rw [← hm, ← h.2]; exact at_le l K
  unfold uv
  clear h hm hmem hs
  go_enter Tryz.func23, Tryz.ntmps23
  go_wp2_with fail
  refine HA.out.mono ?_
  rintro e w1 ⟨rfl, hS⟩
  have HSS := Lib.hid hS
  clear hS
  by_cases hlt : m < n
  · have hlt' : (m : Int) < (n : Int) := by omega
    have hk0 : (0 : Int) ≤ (m : Int) := by omega
    obtain ⟨b, off, ha, hb, hc⟩ := (H.out.still HSS.out).at (by omega)
    obtain ⟨x, hx⟩ := H.out.get hlt
    have c0 := hc m x hx
    subst ha
    have HX : Hid (decide (K ∈ l) = ((x : Int) == (K : Int))) := Lib.hid (by
      have := HM.out
      rw [hx] at this
      by_cases e : x = K
      · have h1 : K ∈ l := this.2 (by rw [e])
        simp [h1, e]
      · have h1 : ¬ K ∈ l := fun h => e (by simpa using this.1 h)
        have : ¬ (x : Int) = (K : Int) := by omega
        simp [h1, this])
    clear hx hc
    go_wp2_with fail
    go_ret
    exact ⟨by rw [HX.out]; rfl, HSS.out⟩
  · have hlt' : ¬ (m : Int) < (n : Int) := by omega
    have HX : Hid (decide (K ∈ l) = false) := Lib.hid (by
      have := HM.out
      rw [List.getElem?_eq_none (by rw [H.out.2]; omega)] at this
      have h1 : ¬ K ∈ l := fun h => by cases this.1 h
      simp [h1])
    go_wp2_with fail
    go_ret
    exact ⟨by rw [HX.out]; rfl, HSS.out⟩
theorem list_ext_take {l1 l2 : List Nat} {k : Nat} (h1 : l1.length = k) (h2 : l2.length = k) (h : l1.take k = l2.take k) : l1 = l2 := by
  rw [List.take_of_length_le (by omega), List.take_of_length_le (by omega)] at h; exact h
set_option maxRecDepth 100000 in
set_option maxHeartbeats 1600000 in
theorem baSame {b : Option Addr} {m cb : Nat} {l2 : List Nat} (h : RL uv w a n cap l) (h2 : RL uv w b m cb l2) : Calls Tryz.prog 22 #[.slice a n cap, .slice b m cb] w (FV w (.bool (decide (l = l2)))) := by
  have hbd := h.bound
  have hbd2 := h2.bound
  have H := Lib.hid h
  have H2 := Lib.hid h2
  clear h h2
  by_cases hnm : n = m
  · have hnm' : (n : Int) = (m : Int) := by omega
    subst hnm
    go_enter Tryz.func22, Tryz.ntmps22
    go_wp2_with fail
    go_loopw [5] (fun i wr => ∃ k : Nat, k ≤ n ∧ i = .int .i64 (k : Int) ∧ Hid (Same w wr ∧ l.take k = l2.take k)) (fun i _ => n - (intOf i).toNat)
    case atStart => exact ⟨0, Nat.zero_le _, rfl, Lib.hid ⟨Only.refl _ _, by simp⟩⟩
    case round =>
      obtain ⟨k, hk, rfl, HO⟩ := hrel
      by_cases hlt : k < n
      · have hlt' : (k : Int) < (n : Int) := by omega
        have hk0 : (0 : Int) ≤ (k : Int) := by omega
        obtain ⟨b1, o1, ha1, hb1, hc1⟩ := (H.out.still HO.out.1).at (by omega)
        obtain ⟨b2, o2, ha2, hb2, hc2⟩ := (H2.out.still HO.out.1).at (by omega)
        obtain ⟨x, hx⟩ := H.out.get hlt
        obtain ⟨y, hy⟩ := H2.out.get hlt
        have c1 := hc1 k x hx
        have c2 := hc2 k y hy
        subst ha1
        subst ha2
        have HXY := Lib.hid (And.intro hx hy)
        by_cases hxy : x = y
        · subst hxy
          have HO2 : Hid (Same w wr ∧ l.take (k + 1) = l2.take (k + 1)) := Lib.hid ⟨HO.out.1, by rw [take_snoc l k x hx, take_snoc l2 k x hy, HO.out.2]⟩
          clear hx hy hc1 hc2
          go_wp2_with fail
          go_quiet (fail)
          go_wp2_with fail
          go_roundw
          case rel => exact ⟨k + 1, by omega, by go_num, Lib.hid ⟨HO2.out.1.drewN _, HO2.out.2⟩⟩
          case measure => simp [intOf]; omega
        · have hxy' : ((x : Int) == (y : Int)) = false := by rw [beq_eq_false_iff_ne]; omega
          have hxy2 : ¬ (x : Int) = (y : Int) := by omega
          have HX : Hid (decide (l = l2) = false) := Lib.hid (by
            have : ¬ l = l2 := fun e => by subst e; rw [hx] at hy; exact hxy (Option.some.inj hy)
            simp [this])
          clear hx hy hc1 hc2
          go_wp2_with fail
          go_quiet (fail)
          go_wp2_with fail
          go_ret
          exact ⟨by rw [HX.out]; rfl, HO.out.1.drewN _⟩
      · have hlt' : ¬ (k : Int) < (n : Int) := by omega
        obtain rfl : k = n := by omega
        have HX : Hid (decide (l = l2) = true) := Lib.hid (by simp [list_ext_take H.out.2 H2.out.2 HO.out.2])
        go_wp2_with fail
        go_ret
        exact ⟨by rw [HX.out]; rfl, HO.out.1⟩
  · have hnm' : ((n : Int) == (m : Int)) = false := by rw [beq_eq_false_iff_ne]; omega
    have hnm2 : ¬ (n : Int) = (m : Int) := by omega
    have HX : Hid (decide (l = l2) = false) := Lib.hid (by
      have : ¬ l = l2 := fun e => hnm (by rw [← H.out.2, ← H2.out.2, e])
      simp [this])
    go_enter Tryz.func22, Tryz.ntmps22
    go_wp2_with fail
    go_ret
    exact ⟨by rw [HX.out]; rfl, Only.refl _ _⟩
end
end Go.Proofs.YtacjkbljokjdkaaGreat.ba
namespace Go.Proofs.YtacjkbljokjdkaaGreat.ba
open Go.RowKit Go.Proofs.YtacjkbljokjdkaaGreat.base Go.Proofs.YtacjkbljokjdkaaGreat.heap Go.Proofs.YtacjkbljokjdkaaGreat.rows Go.Proofs.YtacjkbljokjdkaaGreat.bit Go.Proofs.YtacjkbljokjdkaaGreat.bs
set_option linter.unusedVariables false
theorem q_same {w wr : World} (h : ∃ m, wr = w.drewN m) : Same w wr := by obtain ⟨m, rfl⟩ := h; exact (Only.refl _ _).drewN m
theorem q_add {w wr : World} (h : ∃ m, wr = w.drewN m) (n : Nat) : ∃ m, wr.drewN n = w.drewN m := by
  obtain ⟨m, rfl⟩ := h
  exact ⟨m + n, by first | rfl | (simp [World.drewN]; omega) | simp [World.drewN_add]⟩
section
variable {w : World} {a : Option Addr} {n cap : Nat} {l : List Nat}
set_option maxRecDepth 100000 in
set_option maxHeartbeats 1600000 in
theorem baSameQ {b : Option Addr} {m cb : Nat} {l2 : List Nat} (h : RL uv w a n cap l) (h2 : RL uv w b m cb l2) : Calls Tryz.prog 22 #[.slice a n cap, .slice b m cb] w (fun e w' => e = .returned (.bool (decide (l = l2))) ∧ ∃ m, w' = w.drewN m) := by
  have hbd := h.bound
  have hbd2 := h2.bound
  have H := Lib.hid h
  have H2 := Lib.hid h2
  clear h h2
  by_cases hnm : n = m
  · have hnm' : (n : Int) = (m : Int) := by omega
    subst hnm
    go_enter Tryz.func22, Tryz.ntmps22
    go_wp2_with fail
    go_loopw [5] (fun i wr => ∃ k : Nat, k ≤ n ∧ i = .int .i64 (k : Int) ∧ Hid ((∃ m, wr = w.drewN m) ∧ l.take k = l2.take k)) (fun i _ => n - (intOf i).toNat)
    case atStart => exact ⟨0, Nat.zero_le _, rfl, Lib.hid ⟨⟨0, rfl⟩, by simp⟩⟩
    case round =>
      obtain ⟨k, hk, rfl, HO⟩ := hrel
      by_cases hlt : k < n
      · have hlt' : (k : Int) < (n : Int) := by omega
        have hk0 : (0 : Int) ≤ (k : Int) := by omega
        obtain ⟨b1, o1, ha1, hb1, hc1⟩ := (H.out.still (q_same HO.out.1)).at (by omega)
        obtain ⟨b2, o2, ha2, hb2, hc2⟩ := (H2.out.still (q_same HO.out.1)).at (by omega)
        obtain ⟨x, hx⟩ := H.out.get hlt
        obtain ⟨y, hy⟩ := H2.out.get hlt
        have c1 := hc1 k x hx
        have c2 := hc2 k y hy
        subst ha1
        subst ha2
        have HXY := Lib.hid (And.intro hx hy)
        by_cases hxy : x = y
        · subst hxy
          have HO2 : Hid ((∃ m, wr = w.drewN m) ∧ l.take (k + 1) = l2.take (k + 1)) := Lib.hid ⟨HO.out.1, by rw [take_snoc l k x hx, take_snoc l2 k x hy, HO.out.2]⟩
          clear hx hy hc1 hc2
          go_wp2_with fail
          go_quiet (fail)
          go_wp2_with fail
          go_roundw
          case rel => exact ⟨k + 1, by omega, by go_num, Lib.hid ⟨q_add HO2.out.1 _, HO2.out.2⟩⟩
          case measure => simp [intOf]; omega
        · have hxy' : ((x : Int) == (y : Int)) = false := by rw [beq_eq_false_iff_ne]; omega
          have hxy2 : ¬ (x : Int) = (y : Int) := by omega
          have HX : Hid (decide (l = l2) = false) := Lib.hid (by
            have : ¬ l = l2 := fun e => by subst e; rw [hx] at hy; exact hxy (Option.some.inj hy)
            simp [this])
          clear hx hy hc1 hc2
          go_wp2_with fail
          go_quiet (fail)
          go_wp2_with fail
          go_ret
          exact ⟨by rw [HX.out]; rfl, q_add HO.out.1 _⟩
      · have hlt' : ¬ (k : Int) < (n : Int) := by omega
        obtain rfl : k = n := by omega
        have HX : Hid (decide (l = l2) = true) := Lib.hid (by simp [list_ext_take H.out.2 H2.out.2 HO.out.2])
        go_wp2_with fail
        go_ret
        exact ⟨by rw [HX.out]; rfl, HO.out.1⟩
  · have hnm' : ((n : Int) == (m : Int)) = false := by rw [beq_eq_false_iff_ne]; omega
    have hnm2 : ¬ (n : Int) = (m : Int) := by omega
    have HX : Hid (decide (l = l2) = false) := Lib.hid (by
      have : ¬ l = l2 := fun e => hnm (by rw [← H.out.2, ← H2.out.2, e])
      simp [this])
    go_enter Tryz.func22, Tryz.ntmps22
    go_wp2_with fail
    go_ret
    exact ⟨by rw [HX.out]; rfl, 0, rfl⟩
end
end Go.Proofs.YtacjkbljokjdkaaGreat.ba
namespace Go.Proofs.YtacjkbljokjdkaaGreat.ba
open Go.RowKit Go.Proofs.YtacjkbljokjdkaaGreat.base Go.Proofs.YtacjkbljokjdkaaGreat.heap Go.Proofs.YtacjkbljokjdkaaGreat.rows Go.Proofs.YtacjkbljokjdkaaGreat.bit Go.Proofs.YtacjkbljokjdkaaGreat.bs
set_option linter.unusedVariables false
/-- a list of numbers of the call's own -/
def OU (w : World) (a : Option Addr) (n cap : Nat) (l : List Nat) : Prop := Own 34 1 w a n cap (U l) ∧ l.length = n
section
variable {w w' : World} {a : Option Addr} {n cap : Nat} {l : List Nat}
theorem OU.rl (h : OU w a n cap l) : RL uv w a n cap l := ⟨h.1.rd, h.2⟩
theorem OU.still (h : OU w a n cap l) (ho : Same w w') : OU w' a n cap l := ⟨h.1.keep ho (fun _ _ => id), h.2⟩
theorem OU.nil (w : World) : OU w none 0 0 [] := ⟨Own.nil _ _ _, rfl⟩
theorem OU.bound (h : OU w a n cap l) : n ≤ cap ∧ cap ≤ 9223372036854775807 := h.1.bound
theorem OU.alt (h : OU w a n cap l) : (a = none ∧ cap = 0 ∧ n = 0) ∨ ∃ b, a = some ⟨b, 0, none⟩ ∧ b < w.heap.size := by
  rcases h.1.alt with ⟨h1, h2⟩ | ⟨b, cur, h1, h2, _⟩
  · exact .inl ⟨h1, h2, by have := h.1.le; omega⟩
  · exact .inr ⟨b, h1, lt_of_heap h2⟩
theorem U_take (l : List Nat) (k : Nat) : (U l).take k = U (l.take k) := by simp [U]
theorem U_drop (l : List Nat) (k : Nat) : (U l).drop k = U (l.drop k) := by simp [U]
theorem U_app (l m : List Nat) : U (l ++ m) = U l ++ U m := by simp [U]
/-- its first elements, its last ones, as they are appended -/
theorem OU.srcTake (h : OU w a n cap l) {m : Nat} (hm : m ≤ n) : Src Tryz.prog 1 24 (.slice a m cap) m (U (l.take m)) w := by
  have h2 := h.1.rd.take (k := m) (c := cap) hm (by have := h.1.le; omega) (Nat.le_refl _)
  rw [Nat.mul_one, U_take] at h2
  exact h2.src Tryz.underlying24
theorem OU.srcDrop {b : Nat} (h : OU w (some ⟨b, 0, none⟩) n cap l) {m : Nat} (hm : m ≤ n) : Src Tryz.prog 1 24 (.slice (some ⟨b, m, none⟩) (n - m) (cap - m)) (n - m) (U (l.drop m)) w := by
  have h2 := Rd.drop h.1.rd (k := m) hm
  rw [Nat.mul_one, U_drop, Nat.zero_add] at h2
  exact h2.src Tryz.underlying24
/-- a list of numbers is handed back -/
def PutP (l : List Nat) (a : Option Addr) (w : World) (e : Ending) (w' : World) : Prop := ∃ a' cap', e = .returned (.slice a' l.length cap') ∧ OU w' a' l.length cap' l ∧ Same w w' ∧ ∀ k, At a' k → At a k ∨ w.heap.size ≤ k

set_option maxRecDepth 100000 in
set_option maxHeartbeats 1600000 in
theorem baPut (h : OU w a n cap l) (hs : Asc l) (K : Nat) (hn : n ≤ 1000000) : Calls Tryz.prog 25 #[.slice a n cap, uv K] w (PutP (put l K) a w) := by
  have hbd := h.bound
  have HH := Lib.hid (baHas h.rl hs K)
  have HA : Hid (∀ wx, Same w wx → Calls Tryz.prog 28 #[.slice a n cap, uv K] wx (FV wx (.int .i64 (at_ l K : Nat)))) := Lib.hid (fun wx hS => baAt (h.rl.still hS) K)
  have H := Lib.hid h
  by_cases hm : K ∈ l
  · have hd : decide (K ∈ l) = true := by simp [hm]
    rw [hd] at HH
    have HP : Hid (put l K = l) := Lib.hid (by unfold put; rw [if_pos hm])
    unfold uv at *
    clear h hs hm
    go_enter Tryz.func25, Tryz.ntmps25
    go_wp2_with fail
    refine HH.out.mono ?_
    rintro e w1 ⟨rfl, hS⟩
    have HSS := Lib.hid hS
    clear hS
    go_wp2_with fail
    go_ret
    rw [HP.out]
    exact ⟨a, cap, by rw [H.out.2]; rfl, by rw [H.out.2]; exact H.out.still HSS.out, HSS.out, fun k hk => .inl hk⟩
  · have hd : decide (K ∈ l) = false := by simp [hm]
    rw [hd] at HH
    have HP : Hid (put l K = l.take (at_ l K) ++ K :: l.drop (at_ l K)) := Lib.hid (by unfold put; rw [if_neg hm])
    have hmn : at_ l K ≤ n := by rw [← h.2]; exact at_le l K
    obtain ⟨m, hmm⟩ : ∃ m, at_ l K = m := ⟨_, rfl⟩
    rw [hmm] at HP HA hmn
    clear hmm
    unfold uv at *
    have h0 : (0 : Int) ≤ (m : Int) := by omega
    have h1 : (m : Int) ≤ (n : Int) := by omega
    have h2 : (m : Int) ≤ (cap : Int) := by omega
    have HT : Hid (∀ wx, Same w wx → Src Tryz.prog 1 24 (.slice a m cap) m (U (l.take m)) wx) := Lib.hid (fun wx hS => (h.still hS).srcTake hmn)
    rcases h.alt with ⟨rfl, rfl, rfl⟩ | ⟨b, rfl, hb⟩
    · obtain rfl : m = 0 := by omega
      have HD : Hid (∀ wx, Same w wx → Src Tryz.prog 1 24 (.slice none 0 0) 0 (U (l.drop 0)) wx) := Lib.hid (fun wx hS => by
        have := (h.still hS).srcTake (m := 0) (Nat.le_refl _)
        rw [List.eq_nil_of_length_eq_zero h.2] at this ⊢
        exact this)
      clear h hs hm
      go_enter Tryz.func25, Tryz.ntmps25
      go_wp2_with fail
      refine HH.out.mono ?_
      rintro e w1 ⟨rfl, hS⟩
      have HSS := Lib.hid hS
      clear hS
      go_wp2_with fail
      refine (HA.out _ HSS.out).mono ?_
      rintro e w2 ⟨rfl, hS⟩
      have HS2 : Hid (Same w w2) := Lib.hid (Same.trans HSS.out hS)
      clear hS HSS
      go_wp2_with fail
      obtain ⟨w3, hw3⟩ : ∃ w3, w3 = w2.alloc (.cells #[] 34) := ⟨_, rfl⟩
      rw [← hw3]
      obtain ⟨a1, ha1⟩ : ∃ a1 : Option Addr, a1 = some ⟨w2.heap.size, 0, none⟩ := ⟨_, rfl⟩
      rw [← ha1]
      have HOW : Hid (Own 34 1 w3 a1 0 0 (U (l.take 0)) ∧ Same w w3 ∧ ∀ j, At a1 j → w2.heap.size ≤ j) := Lib.hid ⟨by
        rw [ha1, hw3]
        exact Own.of_block (cur := #[]) (heap_alloc_new _ _) 0 0 (Nat.le_refl _) (by simp [maxLen]) rfl (by simp), by rw [hw3]; exact Same.trans HS2.out ((Only.refl _ _).alloc _), fun j hj => by
        rw [ha1] at hj
        have : w2.heap.size = j := hj
        omega⟩
      clear hw3 ha1
      obtain ⟨m, hm0⟩ : ∃ m : Nat, m = 0 := ⟨_, rfl⟩
      have HN0 : Hid (l = []) := Lib.hid (List.eq_nil_of_length_eq_zero H.out.2)
      obtain ⟨m', hm'⟩ : ∃ m' : Nat, 0 + m = m' := ⟨_, rfl⟩
      have hbd3 := HOW.out.1.bound
      have HW4 : Hid (∀ a2 c2 w4 n2, Grew 34 1 ((w3.alloc (.cells #[.int .u64 (K : Int)] 34)).drew) w4 a1 a2 1 (0 + 1) 0 c2 n2 → Same w w4) := Lib.hid (fun a2 c2 w4 n2 hG => new_only HOW.out.2.1 (Only.trans (S := At a1) (((Only.refl _ _).alloc _).drew) hG.only (fun _ _ h => h)) (fun j hj => by have := HOW.out.2.2 j hj; have := HS2.out.size; omega))
      go_wp2_with fail
      go_region_law (first
        | (refine step_app (0 + 1) (U (l.take 0) ++ U [K]) (by rfl) _ _ _ _ (by rfl) slWord ?_ (HOW.out.1.keep (S := fun _ => False) (by with_reducible repeat (first | exact Only.refl _ _ | apply Only.alloc | apply Only.drew)) (fun _ _ => id)) ?_ (Src.row (size := 1) (cs := #[.int .u64 (K : Int)]) (t := 34) (fr := (0, 0)) Tryz.underlying24 (show ((w3.alloc (.cells #[.int .u64 (K : Int)] 34)).drew).heap[w3.heap.size]? = _ from heap_alloc_new' w3 _ _ rfl) 1 1 rfl (by simp [Value.oneCell'])) rfl rfl (by unfold maxLen; omega) (by omega) ?_; (go_simp); (go_simp); intro a2 c2 w4 hG; have hS4 : Same w w4 := HW4.out _ _ _ _ hG)
        | (refine step_app (0 + 1 + (0 - 0)) (U (l.take 0) ++ U [K] ++ U (l.drop 0)) (by rfl) _ _ _ _ (by rfl) slWord ?_ (hG.own.keep (S := fun _ => False) (by with_reducible repeat (first | exact Only.refl _ _ | apply Only.alloc | apply Only.drew)) (fun _ _ => id)) ?_ (HD.out _ (by with_reducible repeat (first | exact hS4 | apply Only.alloc | apply Only.drew))) rfl rfl (by unfold maxLen; omega) (by omega) ?_; (go_simp); (go_simp); intro a3 c3 w5 hG5))
      all_goals
        have HFIN : Hid (∀ a0, PutP (put l K) a0 w (.returned (.slice a3 (0 + 1 + (0 - 0)) c3)) w5) := Lib.hid (by
          intro a0
          have hlen : (put l K).length = 0 + 1 + (0 - 0) := by rw [HP.out]; first | (simp [H.out.2]; done) | (simp [H.out.2]; omega)
          have hO5 : Only (At a2) w4 w5 := by first | exact hG5.only | exact hG5.only.undrew | exact hG5.only.undrewN
          refine ⟨a3, c3, by rw [hlen], ⟨?_, rfl⟩, new_only hS4 hO5 (fun j hj => ?_), fun j hj => .inr ?_⟩
          · rw [hlen, HP.out, show l.take 0 ++ K :: l.drop 0 = l.take 0 ++ [K] ++ l.drop 0 by simp, U_app, U_app]
            exact hG5.own
          · have h8 := HS2.out.size
            have h9 := HOW.out.2.1.size
            rcases hG.fresh j hj with h | h
            · have := HOW.out.2.2 j h; omega
            · have h7 : w3.heap.size + 1 ≤ j := by simpa using h
              omega
          · have h8 := HS2.out.size
            have h9 := HOW.out.2.1.size
            have h10 := hS4.size
            rcases hG5.fresh j hj with h | h
            · rcases hG.fresh j h with h | h
              · have := HOW.out.2.2 j h; omega
              · have h7 : w3.heap.size + 1 ≤ j := by simpa using h
                omega
            · have h7 : w4.heap.size ≤ j := by simpa using h
              omega)
        clear hG hG5 hS4
        go_wp2_with fail
        go_ret
        exact HFIN.out _
    · by_cases hcap : m = cap
      · subst hcap
        have HD : Hid (∀ wx, Same w wx → Src Tryz.prog 1 24 (.slice (some ⟨b, 0, none⟩) 0 0) 0 (U (l.drop m)) wx) := Lib.hid (fun wx hS => by
          have e2 : l.drop m = [] := List.drop_eq_nil_of_le (by rw [h.2]; omega)
          rw [e2]
          exact Src.ofSlice _ Tryz.underlying24 _ 0 _ [] (by simp) (by simp) (by simp))
        clear h hs hm
        go_enter Tryz.func25, Tryz.ntmps25
        go_wp2_with fail
        refine HH.out.mono ?_
        rintro e w1 ⟨rfl, hS⟩
        have HSS := Lib.hid hS
        clear hS
        go_wp2_with fail
        refine (HA.out _ HSS.out).mono ?_
        rintro e w2 ⟨rfl, hS⟩
        have HS2 : Hid (Same w w2) := Lib.hid (Same.trans HSS.out hS)
        clear hS HSS
        go_wp2_with (at_builtin; refine wpList_append (0 + m) ([] ++ U (l.take m)) rfl _ _ _ _ rfl slWord rfl (Own.of_block (cur := #[]) (heap_alloc_new _ _) 0 0 (Nat.le_refl _) (by simp [maxLen]) rfl (by simp)) rfl (HT.out _ (Same.trans HS2.out ((Only.refl _ _).alloc _))) rfl rfl (by unfold maxLen; omega) (by omega) ?_)
        intro a1 c1 w3 hG
        have HOW : Hid (Own 34 1 w3 a1 m c1 (U (l.take m)) ∧ Same w w3 ∧ ∀ j, At a1 j → w2.heap.size ≤ j) := Lib.hid ⟨by simpa using hG.own, Same.trans HS2.out (new_only ((Only.refl _ _).alloc _) hG.only (fun j hj => by have : w2.heap.size = j := hj; omega)), fun j hj => by
          rcases hG.fresh j hj with h | h
          · have : w2.heap.size = j := h
            omega
          · simp at h; omega⟩
        clear hG
        obtain ⟨m', hm'⟩ : ∃ m' : Nat, 0 + m = m' := ⟨_, rfl⟩
        have hbd3 := HOW.out.1.bound
        have HW4 : Hid (∀ a2 c2 w4 n2, Grew 34 1 ((w3.alloc (.cells #[.int .u64 (K : Int)] 34)).drew) w4 a1 a2 1 (m + 1) c1 c2 n2 → Same w w4) := Lib.hid (fun a2 c2 w4 n2 hG => new_only HOW.out.2.1 (Only.trans (S := At a1) (((Only.refl _ _).alloc _).drew) hG.only (fun _ _ h => h)) (fun j hj => by have := HOW.out.2.2 j hj; have := HS2.out.size; omega))
        go_wp2_with fail
        go_region_law (first
          | (refine step_app (m + 1) (U (l.take m) ++ U [K]) (by rfl) _ _ _ _ (by rfl) slWord ?_ (HOW.out.1.keep (S := fun _ => False) (by with_reducible repeat (first | exact Only.refl _ _ | apply Only.alloc | apply Only.drew)) (fun _ _ => id)) ?_ (Src.row (size := 1) (cs := #[.int .u64 (K : Int)]) (t := 34) (fr := (0, 0)) Tryz.underlying24 (show ((w3.alloc (.cells #[.int .u64 (K : Int)] 34)).drew).heap[w3.heap.size]? = _ from heap_alloc_new' w3 _ _ rfl) 1 1 rfl (by simp [Value.oneCell'])) rfl rfl (by unfold maxLen; omega) (by omega) ?_; (go_simp); (go_simp); intro a2 c2 w4 hG; have hS4 : Same w w4 := HW4.out _ _ _ _ hG)
          | (refine step_app (m + 1 + (0)) (U (l.take m) ++ U [K] ++ U (l.drop m)) (by rfl) _ _ _ _ (by rfl) slWord ?_ (hG.own.keep (S := fun _ => False) (by with_reducible repeat (first | exact Only.refl _ _ | apply Only.alloc | apply Only.drew)) (fun _ _ => id)) ?_ (HD.out _ (by with_reducible repeat (first | exact hS4 | apply Only.alloc | apply Only.drew))) rfl rfl (by unfold maxLen; omega) (by omega) ?_; (go_simp); (go_simp); intro a3 c3 w5 hG5))
        all_goals
          have HFIN : Hid (∀ a0, PutP (put l K) a0 w (.returned (.slice a3 (m + 1 + (0)) c3)) w5) := Lib.hid (by
            intro a0
            have hlen : (put l K).length = m + 1 + (0) := by rw [HP.out]; first | (simp [H.out.2]; done) | (simp [H.out.2]; omega)
            have hO5 : Only (At a2) w4 w5 := by first | exact hG5.only | exact hG5.only.undrew | exact hG5.only.undrewN
            refine ⟨a3, c3, by rw [hlen], ⟨?_, rfl⟩, new_only hS4 hO5 (fun j hj => ?_), fun j hj => .inr ?_⟩
            · rw [hlen, HP.out, show l.take m ++ K :: l.drop m = l.take m ++ [K] ++ l.drop m by simp, U_app, U_app]
              exact hG5.own
            · have h8 := HS2.out.size
              have h9 := HOW.out.2.1.size
              rcases hG.fresh j hj with h | h
              · have := HOW.out.2.2 j h; omega
              · have h7 : w3.heap.size + 1 ≤ j := by simpa using h
                omega
            · have h8 := HS2.out.size
              have h9 := HOW.out.2.1.size
              have h10 := hS4.size
              rcases hG5.fresh j hj with h | h
              · rcases hG.fresh j h with h | h
                · have := HOW.out.2.2 j h; omega
                · have h7 : w3.heap.size + 1 ≤ j := by simpa using h
                  omega
              · have h7 : w4.heap.size ≤ j := by simpa using h
                omega)
          clear hG hG5 hS4
          go_wp2_with fail
          go_ret
          exact HFIN.out _
      · have HD : Hid (∀ wx, Same w wx → Src Tryz.prog 1 24 (.slice (some ⟨b, m, none⟩) (n - m) (cap - m)) (n - m) (U (l.drop m)) wx) := Lib.hid (fun wx hS => (h.still hS).srcDrop hmn)
        have hcap' : ¬ (cap : Int) = (m : Int) := by omega
        have hcap2 : ¬ cap = m := by omega
        clear h hs hm
        go_enter Tryz.func25, Tryz.ntmps25
        go_wp2_with fail
        refine HH.out.mono ?_
        rintro e w1 ⟨rfl, hS⟩
        have HSS := Lib.hid hS
        clear hS
        go_wp2_with fail
        refine (HA.out _ HSS.out).mono ?_
        rintro e w2 ⟨rfl, hS⟩
        have HS2 : Hid (Same w w2) := Lib.hid (Same.trans HSS.out hS)
        clear hS HSS
        go_wp2_with (at_builtin; refine wpList_append (0 + m) ([] ++ U (l.take m)) rfl _ _ _ _ rfl slWord rfl (Own.of_block (cur := #[]) (heap_alloc_new _ _) 0 0 (Nat.le_refl _) (by simp [maxLen]) rfl (by simp)) rfl (HT.out _ (Same.trans HS2.out ((Only.refl _ _).alloc _))) rfl rfl (by unfold maxLen; omega) (by omega) ?_)
        intro a1 c1 w3 hG
        have HOW : Hid (Own 34 1 w3 a1 m c1 (U (l.take m)) ∧ Same w w3 ∧ ∀ j, At a1 j → w2.heap.size ≤ j) := Lib.hid ⟨by simpa using hG.own, Same.trans HS2.out (new_only ((Only.refl _ _).alloc _) hG.only (fun j hj => by have : w2.heap.size = j := hj; omega)), fun j hj => by
          rcases hG.fresh j hj with h | h
          · have : w2.heap.size = j := h
            omega
          · simp at h; omega⟩
        clear hG
        obtain ⟨m', hm'⟩ : ∃ m' : Nat, 0 + m = m' := ⟨_, rfl⟩
        have hbd3 := HOW.out.1.bound
        have HW4 : Hid (∀ a2 c2 w4 n2, Grew 34 1 ((w3.alloc (.cells #[.int .u64 (K : Int)] 34)).drew) w4 a1 a2 1 (m + 1) c1 c2 n2 → Same w w4) := Lib.hid (fun a2 c2 w4 n2 hG => new_only HOW.out.2.1 (Only.trans (S := At a1) (((Only.refl _ _).alloc _).drew) hG.only (fun _ _ h => h)) (fun j hj => by have := HOW.out.2.2 j hj; have := HS2.out.size; omega))
        go_wp2_with fail
        go_region_law (first
          | (refine step_app (m + 1) (U (l.take m) ++ U [K]) (by rfl) _ _ _ _ (by rfl) slWord ?_ (HOW.out.1.keep (S := fun _ => False) (by with_reducible repeat (first | exact Only.refl _ _ | apply Only.alloc | apply Only.drew)) (fun _ _ => id)) ?_ (Src.row (size := 1) (cs := #[.int .u64 (K : Int)]) (t := 34) (fr := (0, 0)) Tryz.underlying24 (show ((w3.alloc (.cells #[.int .u64 (K : Int)] 34)).drew).heap[w3.heap.size]? = _ from heap_alloc_new' w3 _ _ rfl) 1 1 rfl (by simp [Value.oneCell'])) rfl rfl (by unfold maxLen; omega) (by omega) ?_; (go_simp); (go_simp); intro a2 c2 w4 hG; have hS4 : Same w w4 := HW4.out _ _ _ _ hG)
          | (refine step_app (m + 1 + (n - m)) (U (l.take m) ++ U [K] ++ U (l.drop m)) (by rfl) _ _ _ _ (by rfl) slWord ?_ (hG.own.keep (S := fun _ => False) (by with_reducible repeat (first | exact Only.refl _ _ | apply Only.alloc | apply Only.drew)) (fun _ _ => id)) ?_ (HD.out _ (by with_reducible repeat (first | exact hS4 | apply Only.alloc | apply Only.drew))) rfl rfl (by unfold maxLen; omega) (by omega) ?_; (go_simp); (go_simp); intro a3 c3 w5 hG5))
        all_goals
          have HFIN : Hid (∀ a0, PutP (put l K) a0 w (.returned (.slice a3 (m + 1 + (n - m)) c3)) w5) := Lib.hid (by
            intro a0
            have hlen : (put l K).length = m + 1 + (n - m) := by rw [HP.out]; first | (simp [H.out.2]; done) | (simp [H.out.2]; omega)
            have hO5 : Only (At a2) w4 w5 := by first | exact hG5.only | exact hG5.only.undrew | exact hG5.only.undrewN
            refine ⟨a3, c3, by rw [hlen], ⟨?_, rfl⟩, new_only hS4 hO5 (fun j hj => ?_), fun j hj => .inr ?_⟩
            · rw [hlen, HP.out, show l.take m ++ K :: l.drop m = l.take m ++ [K] ++ l.drop m by simp, U_app, U_app]
              exact hG5.own
            · have h8 := HS2.out.size
              have h9 := HOW.out.2.1.size
              rcases hG.fresh j hj with h | h
              · have := HOW.out.2.2 j h; omega
              · have h7 : w3.heap.size + 1 ≤ j := by simpa using h
                omega
            · have h8 := HS2.out.size
              have h9 := HOW.out.2.1.size
              have h10 := hS4.size
              rcases hG5.fresh j hj with h | h
              · rcases hG.fresh j h with h | h
                · have := HOW.out.2.2 j h; omega
                · have h7 : w3.heap.size + 1 ≤ j := by simpa using h
                  omega
              · have h7 : w4.heap.size ≤ j := by simpa using h
                omega)
          clear hG hG5 hS4
          go_wp2_with fail
          go_ret
          exact HFIN.out _
end
end Go.Proofs.YtacjkbljokjdkaaGreat.ba
namespace Go.Proofs.YtacjkbljokjdkaaGreat.ba
open Go.RowKit Go.Proofs.YtacjkbljokjdkaaGreat.base Go.Proofs.YtacjkbljokjdkaaGreat.heap Go.Proofs.YtacjkbljokjdkaaGreat.rows Go.Proofs.YtacjkbljokjdkaaGreat.bit Go.Proofs.YtacjkbljokjdkaaGreat.bs
set_option linter.unusedVariables false
theorem new_old' (w : World) (A B : Obj) : ((w.alloc A).alloc B).heap[w.heap.size]? = some A := by
  show ((w.heap.push A).push B)[w.heap.size]? = _
  rw [Array.getElem?_push, if_neg (by simp), Array.getElem?_push, if_pos rfl]
theorem ret_arr {Q : Ending → World → Prop} {tmps : Array Value} {w3 : World} {r : Nat} {y n s : Value} (h4 : tmps[4]? = some (.pointer (some ⟨r, 0, none⟩)))
    (hob : w3.heap[r]? = some (.cells #[y, n, s] 36 (0, 0))) (hQ : Q (.returned (.agg #[y, n, s])) w3) :
    bodyPost Tryz.prog Tryz.f26 Q Exit.ret { tmps := tmps, defers := [] } w3 := by
  have c0 : w3.cell? ⟨r, 0, none⟩ = some y := block_cell hob rfl
  have c1 : w3.cell? ⟨r, 1, none⟩ = some n := block_cell hob rfl
  have c2 : w3.cell? ⟨r, 2, none⟩ = some s := block_cell hob rfl
  clear hob
  simp [bodyPost, results, Tryz.results26, go_sem, h4, c0, c1, c2]
  exact hQ
set_option maxRecDepth 100000 in
set_option maxHeartbeats 1600000 in
theorem baNew0 (k : Nat) (hk : k ≤ 1000000) (w : World) : Calls Tryz.prog 26 #[uv k, .bool false] w (FV w (.agg #[.bool true, uv ((k + 63) / 64), .slice none 0 0])) := by
  have e1 : IntKind.u64.wrap ((k : Int) + 63) = (k : Int) + 63 := by rw [IntKind.wrap_u64]; omega
  obtain ⟨q, hq⟩ : ∃ q : Nat, (k + 63) / 64 = q := ⟨_, rfl⟩
  have hqq : ((k : Int) + 63) / 64 = (q : Int) := by omega
  have hqw : IntKind.u64.wrap (q : Int) = (q : Int) := by rw [IntKind.wrap_u64]; omega
  unfold uv
  rw [hq]
  clear hq
  have HS : Hid (∀ A B w', w' = ((w.alloc A).alloc B) → Same w w') := Lib.hid (fun A B w' h => by rw [h]; exact ((Only.refl _ _).alloc _).alloc _)
  go_enter Tryz.func26, Tryz.ntmps26
  go_wp2_with fail
  obtain ⟨s, hs⟩ : ∃ s, w.heap.size = s := ⟨_, rfl⟩
  obtain ⟨p, hp⟩ : ∃ p, s + 1 = p := ⟨_, rfl⟩
  have HSP : Hid (w.heap.size ≤ s ∧ w.heap.size ≤ p ∧ s ≠ p) := Lib.hid (by omega)
  rw [hs, hp]
  go_loopw [6] (fun i wr => i = .int .u64 0 ∧ Hid (Same w wr ∧ wr.heap[s]? = some (.cells #[.bool false, .int .u64 0, .slice none 0 0] 36 (0, 0)) ∧ wr.heap[p]? = some (.cells #[.bool true, .int .u64 (q : Int), .slice none 0 0] 36 (0, 0)))) (fun i _ => 0)
  case atStart =>
    exact ⟨rfl, Lib.hid ⟨HS.out _ _ _ rfl, by rw [← hs]; exact new_old' w _ _, by rw [← hp, ← hs]; exact heap_alloc_new' _ _ _ (by rw [World.size_alloc])⟩⟩
  case round =>
    obtain ⟨rfl, HI⟩ := hrel
    have c1 : wr.cell? ⟨p, 1, none⟩ = some (.int .u64 (q : Int)) := block_cell HI.out.2.2 rfl
    have c0 : wr.cell? ⟨p, 0, none⟩ = some (.bool true) := block_cell HI.out.2.2 rfl
    have c2 : wr.cell? ⟨p, 2, none⟩ = some (.slice none 0 0) := block_cell HI.out.2.2 rfl
    have d0 : wr.cell? ⟨s, 0, none⟩ = some (.bool false) := block_cell HI.out.2.1 rfl
    have d1 : wr.cell? ⟨s, 1, none⟩ = some (.int .u64 0) := block_cell HI.out.2.1 rfl
    have d2 : wr.cell? ⟨s, 2, none⟩ = some (.slice none 0 0) := block_cell HI.out.2.1 rfl
    have f1 : ∀ j, wr.frozen? ⟨s, j, none⟩ = false := fun j => block_free HI.out.2.1
    go_wp2_with fail
    refine ret_arr rfl (setCell_heap (setCell_heap (setCell_heap HI.out.2.1 0 _) 1 _) 2 _) ⟨rfl, ?_⟩
    exact ((HI.out.1.setCell _ _ (fun h => absurd HSP.out.1 (by simp at h; omega))).setCell _ _ (fun h => absurd HSP.out.1 (by simp at h; omega))).setCell _ _ (fun h => absurd HSP.out.1 (by simp at h; omega))
/-- a list that is read, its elements one by one -/
theorem filter_snoc (p : Nat → Bool) (l : List Nat) (k x : Nat) (h : l[k]? = some x) : (l.take (k + 1)).filter p = (l.take k).filter p ++ if p x then [x] else [] := by
  rw [take_snoc l k x h, List.filter_append]
  simp only [List.filter_cons, List.filter_nil]
section
variable {w : World} {a b : Option Addr} {n cap m cb : Nat} {l l2 : List Nat}
set_option maxRecDepth 100000 in
set_option maxHeartbeats 1600000 in
theorem baAnd (h : RL uv w a n cap l) (h2 : RL uv w b m cb l2) (hs2 : Asc l2) (hn : n ≤ 1000000) : Calls Tryz.prog 11 #[.slice a n cap, .slice b m cb] w (PutP (andL l l2) none w) := by
  have hbd := h.bound
  have H := Lib.hid h
  have HH : Hid (∀ K wx, Same w wx → Calls Tryz.prog 23 #[.slice b m cb, .int .u64 ((K : Nat) : Int)] wx (FV wx (.bool (decide (K ∈ l2))))) := Lib.hid (fun K wx hS => baHas (h2.still hS) hs2 K)
  clear h h2 hs2
  go_enter Tryz.func11, Tryz.ntmps11
  go_wp2_with fail
  go_loopw [5, 6] (fun o i wr => ∃ (k j : Nat) (oa : Option Addr) (oc : Nat), o = .slice oa j oc ∧ i = .int .i64 (k : Int) ∧ k ≤ n ∧ j ≤ k ∧ Hid (OU wr oa j oc (andL (l.take k) l2) ∧ Same w wr ∧ ∀ q, At oa q → w.heap.size ≤ q)) (fun _ i _ => n - (intOf i).toNat)
  case atStart => exact ⟨0, 0, none, 0, rfl, rfl, Nat.zero_le _, Nat.le_refl _, Lib.hid ⟨OU.nil _, Only.refl _ _, fun q hq => hq.elim⟩⟩
  case round =>
    obtain ⟨k, j, oa, oc, rfl, rfl, hk, hj, HO⟩ := hrel
    have hbo := HO.out.1.bound
    by_cases hlt : k < n
    · have hlt' : (k : Int) < (n : Int) := by omega
      have hk0 : (0 : Int) ≤ (k : Int) := by omega
      obtain ⟨b1, o1, ha1, hb1, hc1⟩ := (H.out.still HO.out.2.1).at (by omega)
      obtain ⟨x, hx⟩ := H.out.get hlt
      have c1 := hc1 k x hx
      have HX := Lib.hid hx
      have HHx : Hid (∀ wx, Same wr wx → Calls Tryz.prog 23 #[.slice b m cb, .int .u64 (x : Int)] wx (FV wx (.bool (decide (x ∈ l2))))) := Lib.hid (fun wx hS => HH.out x wx (Same.trans HO.out.2.1 hS))
      subst ha1
      clear hc1 hx
      by_cases hm : x ∈ l2
      · have hd : decide (x ∈ l2) = true := by simp [hm]
        rw [hd] at HHx
        have HFS : Hid (andL (l.take (k + 1)) l2 = andL (l.take k) l2 ++ [x]) := Lib.hid (by unfold andL; rw [filter_snoc _ _ _ _ HX.out]; simp [hm])
        clear hm hd
        go_wp2_with fail
        refine (HHx.out _ (Only.refl _ _)).mono ?_
        rintro e w2 ⟨rfl, hS2⟩
        have HS2 := Lib.hid hS2
        have c2 : w2.cell? ⟨b1, o1 + k, none⟩ = some (.int .u64 (x : Int)) := (hS2.cell (p := ⟨b1, o1 + k, none⟩) hb1 id).trans c1
        have HOW : Hid (Own 34 1 w2 oa j oc (U (andL (l.take k) l2))) := Lib.hid (HO.out.1.still hS2).1
        clear hS2 HHx c1
        go_wp2_with (at_builtin; refine wpList_append (j + 1) (U (andL (l.take k) l2) ++ U [x]) rfl _ _ _ _ rfl slWord rfl (HOW.out.keep (S := fun _ => False) (by repeat (first | exact Only.refl _ _ | apply Only.alloc | apply Only.drew)) (fun _ _ => id)) rfl (Src.row (size := 1) (cs := #[.int .u64 (x : Int)]) (t := 34) (fr := (0, 0)) Tryz.underlying24 (by exact heap_alloc_new _ _) 1 1 rfl (by simp [Value.oneCell'])) rfl rfl (by unfold maxLen; omega) (by omega) ?_)
        intro oa2 oc2 w3 hG
        have HN : Hid (OU w3 oa2 (j + 1) oc2 (andL (l.take (k + 1)) l2) ∧ Same w w3 ∧ ∀ q, At oa2 q → w.heap.size ≤ q) := Lib.hid ⟨⟨by rw [HFS.out, U_app]; exact hG.own, by rw [HFS.out, List.length_append, HO.out.1.2]; rfl⟩, new_only (S := At oa) (Same.trans HO.out.2.1 (Same.trans HS2.out ((Only.refl _ _).alloc _))) hG.only HO.out.2.2, fun q hq => (hG.fresh q hq).elim (HO.out.2.2 q) (fun h => by have h1 := HO.out.2.1.size; have h2 := HS2.out.size; simp at h; omega)⟩
        clear hG HOW HS2 c2
        go_wp2_with fail
        go_roundw
        case rel => exact ⟨k + 1, j + 1, oa2, oc2, rfl, by go_num, by omega, by omega, HN⟩
        case measure => simp [intOf]; omega
      · have hd : decide (x ∈ l2) = false := by simp [hm]
        rw [hd] at HHx
        have HFS : Hid (andL (l.take (k + 1)) l2 = andL (l.take k) l2 ++ []) := Lib.hid (by unfold andL; rw [filter_snoc _ _ _ _ HX.out]; simp [hm])
        clear hm hd
        go_wp2_with fail
        refine (HHx.out _ (Only.refl _ _)).mono ?_
        rintro e w2 ⟨rfl, hS2⟩
        have HN : Hid (OU w2 oa j oc (andL (l.take (k + 1)) l2) ∧ Same w w2 ∧ ∀ q, At oa q → w.heap.size ≤ q) := Lib.hid ⟨by rw [HFS.out, List.append_nil]; exact HO.out.1.still hS2, Same.trans HO.out.2.1 hS2, HO.out.2.2⟩
        clear hS2 HHx c1
        go_wp2_with fail
        go_roundw
        case rel => exact ⟨k + 1, j, oa, oc, rfl, by go_num, by omega, by omega, HN⟩
        case measure => simp [intOf]; omega
    · have hlt' : ¬ (k : Int) < (n : Int) := by omega
      obtain rfl : k = n := by omega
      have HT : Hid (l.take k = l) := Lib.hid (List.take_of_length_le (by rw [H.out.2]; exact Nat.le_refl _))
      rw [HT.out] at HO
      go_wp2_with fail
      go_ret
      have hl := HO.out.1.2
      exact ⟨oa, oc, by rw [hl]; rfl, by rw [hl]; exact HO.out.1, HO.out.2.1, fun q hq => .inr (HO.out.2.2 q hq)⟩
set_option maxRecDepth 100000 in
set_option maxHeartbeats 1600000 in
theorem baNand (h : RL uv w a n cap l) (h2 : RL uv w b m cb l2) (hs2 : Asc l2) (hn : n ≤ 1000000) : Calls Tryz.prog 16 #[.slice a n cap, .slice b m cb] w (PutP (nandL l l2) none w) := by
  have hbd := h.bound
  have H := Lib.hid h
  have HH : Hid (∀ K wx, Same w wx → Calls Tryz.prog 23 #[.slice b m cb, .int .u64 ((K : Nat) : Int)] wx (FV wx (.bool (decide (K ∈ l2))))) := Lib.hid (fun K wx hS => baHas (h2.still hS) hs2 K)
  clear h h2 hs2
  go_enter Tryz.func16, Tryz.ntmps16
  go_wp2_with fail
  go_loopw [5, 6] (fun o i wr => ∃ (k j : Nat) (oa : Option Addr) (oc : Nat), o = .slice oa j oc ∧ i = .int .i64 (k : Int) ∧ k ≤ n ∧ j ≤ k ∧ Hid (OU wr oa j oc (nandL (l.take k) l2) ∧ Same w wr ∧ ∀ q, At oa q → w.heap.size ≤ q)) (fun _ i _ => n - (intOf i).toNat)
  case atStart => exact ⟨0, 0, none, 0, rfl, rfl, Nat.zero_le _, Nat.le_refl _, Lib.hid ⟨OU.nil _, Only.refl _ _, fun q hq => hq.elim⟩⟩
  case round =>
    obtain ⟨k, j, oa, oc, rfl, rfl, hk, hj, HO⟩ := hrel
    have hbo := HO.out.1.bound
    by_cases hlt : k < n
    · have hlt' : (k : Int) < (n : Int) := by omega
      have hk0 : (0 : Int) ≤ (k : Int) := by omega
      obtain ⟨b1, o1, ha1, hb1, hc1⟩ := (H.out.still HO.out.2.1).at (by omega)
      obtain ⟨x, hx⟩ := H.out.get hlt
      have c1 := hc1 k x hx
      have HX := Lib.hid hx
      have HHx : Hid (∀ wx, Same wr wx → Calls Tryz.prog 23 #[.slice b m cb, .int .u64 (x : Int)] wx (FV wx (.bool (decide (x ∈ l2))))) := Lib.hid (fun wx hS => HH.out x wx (Same.trans HO.out.2.1 hS))
      subst ha1
      clear hc1 hx
      by_cases hm : x ∈ l2
      · have hd : decide (x ∈ l2) = true := by simp [hm]
        rw [hd] at HHx
        have HFS : Hid (nandL (l.take (k + 1)) l2 = nandL (l.take k) l2 ++ []) := Lib.hid (by unfold nandL; rw [filter_snoc _ _ _ _ HX.out]; simp [hm])
        clear hm hd
        go_wp2_with fail
        refine (HHx.out _ (Only.refl _ _)).mono ?_
        rintro e w2 ⟨rfl, hS2⟩
        have HN : Hid (OU w2 oa j oc (nandL (l.take (k + 1)) l2) ∧ Same w w2 ∧ ∀ q, At oa q → w.heap.size ≤ q) := Lib.hid ⟨by rw [HFS.out, List.append_nil]; exact HO.out.1.still hS2, Same.trans HO.out.2.1 hS2, HO.out.2.2⟩
        clear hS2 HHx c1
        go_wp2_with fail
        go_roundw
        case rel => exact ⟨k + 1, j, oa, oc, rfl, by go_num, by omega, by omega, HN⟩
        case measure => simp [intOf]; omega
      · have hd : decide (x ∈ l2) = false := by simp [hm]
        rw [hd] at HHx
        have HFS : Hid (nandL (l.take (k + 1)) l2 = nandL (l.take k) l2 ++ [x]) := Lib.hid (by unfold nandL; rw [filter_snoc _ _ _ _ HX.out]; simp [hm])
        clear hm hd
        go_wp2_with fail
        refine (HHx.out _ (Only.refl _ _)).mono ?_
        rintro e w2 ⟨rfl, hS2⟩
        have HS2 := Lib.hid hS2
        have c2 : w2.cell? ⟨b1, o1 + k, none⟩ = some (.int .u64 (x : Int)) := (hS2.cell (p := ⟨b1, o1 + k, none⟩) hb1 id).trans c1
        have HOW : Hid (Own 34 1 w2 oa j oc (U (nandL (l.take k) l2))) := Lib.hid (HO.out.1.still hS2).1
        clear hS2 HHx c1
        go_wp2_with (at_builtin; refine wpList_append (j + 1) (U (nandL (l.take k) l2) ++ U [x]) rfl _ _ _ _ rfl slWord rfl (HOW.out.keep (S := fun _ => False) (by repeat (first | exact Only.refl _ _ | apply Only.alloc | apply Only.drew)) (fun _ _ => id)) rfl (Src.row (size := 1) (cs := #[.int .u64 (x : Int)]) (t := 34) (fr := (0, 0)) Tryz.underlying24 (by exact heap_alloc_new _ _) 1 1 rfl (by simp [Value.oneCell'])) rfl rfl (by unfold maxLen; omega) (by omega) ?_)
        intro oa2 oc2 w3 hG
        have HN : Hid (OU w3 oa2 (j + 1) oc2 (nandL (l.take (k + 1)) l2) ∧ Same w w3 ∧ ∀ q, At oa2 q → w.heap.size ≤ q) := Lib.hid ⟨⟨by rw [HFS.out, U_app]; exact hG.own, by rw [HFS.out, List.length_append, HO.out.1.2]; rfl⟩, new_only (S := At oa) (Same.trans HO.out.2.1 (Same.trans HS2.out ((Only.refl _ _).alloc _))) hG.only HO.out.2.2, fun q hq => (hG.fresh q hq).elim (HO.out.2.2 q) (fun h => by have h1 := HO.out.2.1.size; have h2 := HS2.out.size; simp at h; omega)⟩
        clear hG HOW HS2 c2
        go_wp2_with fail
        go_roundw
        case rel => exact ⟨k + 1, j + 1, oa2, oc2, rfl, by go_num, by omega, by omega, HN⟩
        case measure => simp [intOf]; omega
    · have hlt' : ¬ (k : Int) < (n : Int) := by omega
      obtain rfl : k = n := by omega
      have HT : Hid (l.take k = l) := Lib.hid (List.take_of_length_le (by rw [H.out.2]; exact Nat.le_refl _))
      rw [HT.out] at HO
      go_wp2_with fail
      go_ret
      have hl := HO.out.1.2
      exact ⟨oa, oc, by rw [hl]; rfl, by rw [hl]; exact HO.out.1, HO.out.2.1, fun q hq => .inr (HO.out.2.2 q hq)⟩
end
end Go.Proofs.YtacjkbljokjdkaaGreat.ba
namespace Go.Proofs.YtacjkbljokjdkaaGreat.ba
open Go.RowKit Go.Proofs.YtacjkbljokjdkaaGreat.base Go.Proofs.YtacjkbljokjdkaaGreat.heap Go.Proofs.YtacjkbljokjdkaaGreat.rows Go.Proofs.YtacjkbljokjdkaaGreat.bit Go.Proofs.YtacjkbljokjdkaaGreat.bs
set_option linter.unusedVariables false
/-- the bit that is set for a number -/
def cutB (dense : Bool) (q : Nat) (x : Nat) : Nat := if dense then (x % 1152921504606846976) % (64 * q) else x % 1152921504606846976
def firstT (dense : Bool) (m : Nat) : Stp := if dense then { op := 1, k := m } else { op := 2 }
/-- the steps; their bits -/
def madeT (dense : Bool) (m q on : Nat) (l : List Nat) : List Stp := firstT dense m :: l.map fun x => { op := 3, on := on, k := cutB dense q x }
def madeS (dense : Bool) (q : Nat) (l : List Nat) : List Nat := l.foldl (fun s x => put s (cutB dense q x)) []
theorem madeT_snoc (dense : Bool) (m q on : Nat) (l : List Nat) (k x : Nat) (h : l[k]? = some x) : madeT dense m q on (l.take (k + 1)) = madeT dense m q on (l.take k) ++ [{ op := 3, on := on, k := cutB dense q x }] := by
  unfold madeT; rw [take_snoc l k x h]; simp
theorem madeS_snoc (dense : Bool) (q : Nat) (l : List Nat) (k x : Nat) (h : l[k]? = some x) : madeS dense q (l.take (k + 1)) = put (madeS dense q (l.take k)) (cutB dense q x) := by
  unfold madeS; rw [take_snoc l k x h]; simp
theorem madeS_asc (dense : Bool) (q : Nat) (l : List Nat) : Asc (madeS dense q l) := by
  unfold madeS
  suffices h : ∀ s, Asc s → Asc (l.foldl (fun s x => put s (cutB dense q x)) s) from h [] Asc.nil
  induction l with
  | nil => exact fun s hs => hs
  | cons x l ih => exact fun s hs => ih _ (put_asc hs _)
theorem madeS_len (dense : Bool) (q : Nat) (l : List Nat) : (madeS dense q l).length ≤ l.length := by
  unfold madeS
  suffices h : ∀ s : List Nat, (l.foldl (fun s x => put s (cutB dense q x)) s).length ≤ s.length + l.length by simpa using h []
  induction l with
  | nil => exact fun s => by simp
  | cons x l ih =>
    intro s
    have h1 := ih (put s (cutB dense q x))
    have h2 := put_len s (cutB dense q x)
    simp only [List.foldl_cons, List.length_cons]
    omega
theorem slStp : SliceOf Tryz.prog 33 40 6 48 := SliceOf.mk (z := .agg #[.int .i64 0, .int .i64 0, .int .i64 0, .int .u64 0, .int .i64 0, .bool false]) Tryz.underlying33 (by kernel_rfl) rfl
/-- in the course of making -/
structure Mk (w wr : World) (s p : Nat) (dense : Bool) (m q on : Nat) (l : List Nat) (k : Nat) (ta : Option Addr) (tc : Nat) (sa : Option Addr) (j sc : Nat) : Prop where
  same : Same w wr
  res : wr.heap[s]? = some (.cells #[.bool false, .int .u64 0, .slice none 0 0] 36 (0, 0))
  arr : wr.heap[p]? = some (.cells #[.bool dense, .int .u64 (q : Int), .slice sa j sc] 36 (0, 0))
  st : OS 40 stc 6 wr ta (k + 1) tc (madeT dense m q on (l.take k))
  set : OU wr sa j sc (madeS dense q (l.take k))
  new : ∀ i, At ta i ∨ At sa i → w.heap.size ≤ i
  nt : ∀ i, At ta i → i ≠ s ∧ i ≠ p ∧ ¬ At sa i
  ns : ∀ i, At sa i → i ≠ s ∧ i ≠ p
  sz : w.heap.size ≤ s ∧ w.heap.size ≤ p ∧ s ≠ p
/-- the steps and the array -/
def MadeQ (dense : Bool) (m q on : Nat) (l : List Nat) (w : World) (e : Ending) (w' : World) : Prop :=
  ∃ ta tc sa sc, e = .returned (.tuple #[.slice ta (l.length + 1) tc, .agg #[.bool dense, .int .u64 (q : Int), .slice sa (madeS dense q l).length sc]]) ∧ OS 40 stc 6 w' ta (l.length + 1) tc (madeT dense m q on l) ∧ OU w' sa (madeS dense q l).length sc (madeS dense q l) ∧ Same w w' ∧
    ∀ i, (At ta i → w.heap.size ≤ i ∧ ¬ At sa i) ∧ (At sa i → w.heap.size ≤ i)

theorem Mk.step {w wr w2 w3 w4 : World} {s p m q on k tc j sc tc2 j' sc' x : Nat} {dense : Bool} {l : List Nat} {ta sa ta2 sa' : Option Addr} (h : Mk w wr s p dense m q on l k ta tc sa j sc) (hx : l[k]? = some x) {o : Obj}
    (hG : Grew 40 6 (wr.alloc o) w2 ta ta2 1 (k + 1 + 1) tc tc2 ((madeT dense m q on (l.take k)).flatMap stc ++ stc { op := 3, on := on, k := cutB dense q x }))
    (hP : OU w3 sa' j' sc' (put (madeS dense q (l.take k)) (cutB dense q x))) (hS3 : Same w2 w3) (hF3 : ∀ i, At sa' i → At sa i ∨ w2.heap.size ≤ i) (hw4 : w4 = w3.setCell ⟨p, 2, none⟩ (.slice sa' j' sc')) :
    Mk w w4 s p dense m q on l (k + 1) ta2 tc2 sa' j' sc' := by
  have hO2 : Only (At ta) wr w2 := Only.trans (S := At ta) ((Only.refl (At ta) wr).alloc o) hG.only (fun _ _ h => h)
  have hO3 : Only (At ta) wr w3 := hO2.trans hS3 (fun _ _ f => f.elim)
  have hO4 : Only (fun i => i = p) w3 w4 := by rw [hw4]; exact (Only.refl _ _).setCell _ _ (fun _ => rfl)
  have z0 := h.same.size
  have z1 := hO2.size
  have z2 := hS3.size
  have lta := h.st.1.lt
  have lsa := h.set.1.lt
  have ls := lt_of_heap h.res
  have lp := lt_of_heap h.arr
  have ft : ∀ i, At ta2 i → At ta i ∨ wr.heap.size + 1 ≤ i := fun i hi => (hG.fresh i hi).imp id (fun h => by simpa using h)
  have nt2 : ∀ i, At ta2 i → i ≠ s ∧ i ≠ p := fun i hi => by
    rcases ft i hi with h1 | h1
    · exact ⟨(h.nt i h1).1, (h.nt i h1).2.1⟩
    · omega
  have lt2 := hG.own.lt
  refine ⟨?_, ?_, ?_, ⟨?_, ?_⟩, ⟨?_, ?_⟩, fun i hi => ?_, fun i hi => ⟨(nt2 i hi).1, (nt2 i hi).2, fun h2 => ?_⟩, fun i hi => ?_, h.sz⟩
  · exact new_only (S := fun i => At ta i ∨ i = p) h.same (Only.trans (hO3.mono (fun _ _ h => .inl h)) hO4 (fun _ _ h => .inr h)) (fun i hi => hi.elim (fun h1 => h.new i (.inl h1)) (fun h1 => by have := h.sz; omega))
  · exact hO4.obj (hO3.obj h.res (fun h1 => (h.nt s h1).1 rfl)) h.sz.2.2
  · rw [hw4]; exact setCell_heap (hO3.obj h.arr (fun h1 => (h.nt p h1).2.1 rfl)) 2 _
  · rw [madeT_snoc _ _ _ _ _ _ _ hx, flat_snoc]
    exact (hG.own.keep hS3 (fun _ _ => id)).keep hO4 (fun i hi e => (nt2 i hi).2 e)
  · rw [madeT_snoc _ _ _ _ _ _ _ hx, List.length_append, h.st.2]; rfl
  · rw [madeS_snoc _ _ _ _ _ hx]
    exact hP.1.keep hO4 (fun i hi e => by
      rcases hF3 i hi with h1 | h1
      · exact (h.ns i h1).2 e
      · omega)
  · rw [madeS_snoc _ _ _ _ _ hx]; exact hP.2
  · rcases hi with hi | hi
    · rcases ft i hi with h1 | h1
      · exact h.new i (.inl h1)
      · omega
    · rcases hF3 i hi with h1 | h1
      · exact h.new i (.inr h1)
      · omega
  · rcases hF3 i h2 with h1 | h1
    · rcases ft i hi with h3 | h3
      · exact (h.nt i h3).2.2 h1
      · have := lsa i h1; omega
    · have := lt2 i hi; omega
  · rcases hF3 i hi with h1 | h1
    · exact h.ns i h1
    · omega

theorem ret_made {Q : Ending → World → Prop} {tmps : Array Value} {w3 : World} {r : Nat} {y n s t : Value} (h8 : tmps[8]? = some t) (h9 : tmps[9]? = some (.pointer (some ⟨r, 0, none⟩)))
    (hob : w3.heap[r]? = some (.cells #[y, n, s] 36 (0, 0))) (hQ : Q (.returned (.tuple #[t, .agg #[y, n, s]])) w3) :
    bodyPost Tryz.prog Tryz.f20 Q Exit.ret { tmps := tmps, defers := [] } w3 := by
  have c0 : w3.cell? ⟨r, 0, none⟩ = some y := block_cell hob rfl
  have c1 : w3.cell? ⟨r, 1, none⟩ = some n := block_cell hob rfl
  have c2 : w3.cell? ⟨r, 2, none⟩ = some s := block_cell hob rfl
  clear hob
  simp [bodyPost, results, Tryz.results20, go_sem, h8, h9, c0, c1, c2]
  exact hQ
theorem setCell_other {w : World} {b : Nat} {o : Obj} (hb : w.heap[b]? = some o) (r j : Nat) (v : Value) (h : r ≠ b) : (w.setCell ⟨r, j, none⟩ v).heap[b]? = some o := by
  have h2 : Only (fun k => k = r) w (w.setCell ⟨r, j, none⟩ v) := (Only.refl _ _).setCell _ _ (fun _ => rfl)
  exact h2.obj hb (fun e => h e.symm)
theorem Mk.start {w w1 W5 : World} {s p r m q on : Nat} {dense : Bool} {l : List Nat} (h : Same w w1) (res : w1.heap[s]? = some (.cells #[.bool false, .int .u64 0, .slice none 0 0] 36 (0, 0))) (ho : Only (fun i => i = p ∨ i = r) w1 W5)
    (harr : W5.heap[p]? = some (.cells #[.bool dense, .int .u64 (q : Int), .slice none 0 0] 36 (0, 0))) (hsz : w.heap.size ≤ s ∧ w.heap.size ≤ p ∧ s ≠ p ∧ w.heap.size ≤ r ∧ r ≠ s ∧ r ≠ p) (hw : W5.heap.size = w1.heap.size) :
    Mk w (W5.alloc (.cells (stc (firstT dense m)).toArray 40)) s p dense m q on l 0 (some ⟨w1.heap.size, 0, none⟩) 1 none 0 0 := by
  have hA : Same W5 (W5.alloc (.cells (stc (firstT dense m)).toArray 40)) := (Only.refl _ _).alloc _
  have z0 := h.size
  have ls := lt_of_heap res
  have lp := lt_of_heap harr
  have hat : ∀ i, At (some ⟨w1.heap.size, 0, none⟩) i → i = w1.heap.size := fun i hi => by have : w1.heap.size = i := hi; exact this.symm
  refine ⟨?_, ?_, hA.obj harr id, ⟨?_, rfl⟩, OU.nil _, fun i hi => ?_, fun i hi => ?_, fun i hi => hi.elim, hsz.1, hsz.2.1, hsz.2.2.1⟩
  · exact new_only (S := fun i => i = p ∨ i = r) h (ho.trans hA (fun _ _ f => f.elim)) (fun i hi => by omega)
  · exact hA.obj (ho.obj res (fun h => by omega)) id
  · have := Own.of_block (e := 40) (size := 6) (heap_alloc_new W5 (.cells (stc (firstT dense m)).toArray 40)) 1 1 (Nat.le_refl _) (by simp [maxLen]) rfl (by intro u hu; exact stc_one _ u (List.mem_of_mem_take hu))
    rw [hw] at this
    exact this
  · rcases hi with hi | hi
    · have := hat i hi; omega
    · exact hi.elim
  · have := hat i hi
    exact ⟨by omega, by omega, id⟩

set_option maxRecDepth 100000 in
set_option maxHeartbeats 3200000 in
theorem baMadeD (size on : Nat) (a : Option Addr) (n cap : Nat) (l : List Nat) (w : World) (hl : RL uv w a n cap l) (hsz : size < 65536) (hon : on < 1000) :
    Calls Tryz.prog 20 #[.bool true, .int .u16 (size : Int), .slice a n cap, .int .i64 (on : Int)] w (MadeQ true (1 + size % 512) ((1 + size % 512 + 63) / 64) on (l.take 40) w) := by
  have hbd := hl.bound
  have HR := Lib.hid hl
  obtain ⟨m, hm⟩ : ∃ m, 1 + size % 512 = m := ⟨_, rfl⟩
  have hm1 : 1 ≤ m ∧ m ≤ 512 := by omega
  have HB : Hid (∀ wx, Calls Tryz.prog 26 #[.int .u64 (m : Int), .bool false] wx (FV wx (.agg #[.bool true, .int .u64 (((m + 63) / 64 : Nat) : Int), .slice none 0 0]))) := Lib.hid (fun wx => baNew0 m (by omega) wx)
  obtain ⟨q, hq⟩ : ∃ q, (m + 63) / 64 = q := ⟨_, rfl⟩
  have hq1 : 1 ≤ q ∧ q ≤ 9 := by omega
  have e1 : IntKind.u64.wrap (size : Int) = (size : Int) := by rw [IntKind.wrap_u64]; omega
  have e2 : IntKind.u64.wrap ((size : Int).tmod 512) = (size : Int) % 512 := by
    rw [Int.tmod_eq_emod_of_nonneg (by omega), IntKind.wrap_u64]; omega
  have e3 : IntKind.u64.wrap (1 + (size : Int) % 512) = (m : Int) := by rw [IntKind.wrap_u64]; omega
  rw [hm, hq] 
  rw [hq] at HB
  clear hl hq hm
  go_enter Tryz.func20, Tryz.ntmps20
  go_wp2_with (go_at_call 26; refine (HB.out _).mono ?_)
  rintro e w1 ⟨rfl, hS1⟩
  obtain ⟨s, hs⟩ : ∃ s, w.heap.size = s := ⟨_, rfl⟩
  obtain ⟨p, hp⟩ : ∃ p, s + 1 = p := ⟨_, rfl⟩
  obtain ⟨r, hr⟩ : ∃ r, p + 1 = r := ⟨_, rfl⟩
  have HSP : Hid (w.heap.size ≤ s ∧ w.heap.size ≤ p ∧ s ≠ p ∧ w.heap.size ≤ r ∧ r ≠ s ∧ r ≠ p) := Lib.hid (by omega)
  have hA : Same w (((w.alloc (.cells #[.bool false, .int .u64 0, .slice none 0 0] 36)).alloc (.cells #[.bool false, .int .u64 0, .slice none 0 0] 36)).alloc (.cells #[.int .i64 2, .int .i64 0, .int .i64 0, .int .u64 0, .int .i64 0, .bool false] 40)) := (((Only.refl _ _).alloc _).alloc _).alloc _
  have h1 := hS1.obj (b := s) (((Only.refl (fun _ => False) _).alloc _).obj (by rw [← hs]; exact new_old' w _ _) id) id
  have h2 := hS1.obj (b := p) (((Only.refl (fun _ => False) _).alloc _).obj (heap_alloc_new' _ _ _ (by rw [World.size_alloc, ← hp, ← hs])) id) id
  have h3 := hS1.obj (b := r) (heap_alloc_new' _ _ _ (by rw [World.size_alloc, World.size_alloc, ← hr, ← hp, ← hs])) id
  have HW1 : Hid (Same w w1 ∧ w1.heap[s]? = _ ∧ w1.heap[p]? = _ ∧ w1.heap[r]? = _) := Lib.hid ⟨Same.trans hA hS1, h1, h2, h3⟩
  rw [hs, hp, hr]
  have f1 : ∀ j, w1.frozen? ⟨p, j, none⟩ = false := fun j => block_free h2
  have f2 : ∀ j, w1.frozen? ⟨r, j, none⟩ = false := fun j => block_free h3
  have d0 : w1.cell? ⟨p, 0, none⟩ = some (.bool false) := block_cell h2 rfl
  have d1 : w1.cell? ⟨p, 1, none⟩ = some (.int .u64 0) := block_cell h2 rfl
  have d2 : w1.cell? ⟨p, 2, none⟩ = some (.slice none 0 0) := block_cell h2 rfl
  have c0 : w1.cell? ⟨r, 0, none⟩ = some (.int .i64 2) := block_cell h3 rfl
  have c1 : w1.cell? ⟨r, 1, none⟩ = some (.int .i64 0) := block_cell h3 rfl
  have c2 : w1.cell? ⟨r, 2, none⟩ = some (.int .i64 0) := block_cell h3 rfl
  have c3 : w1.cell? ⟨r, 3, none⟩ = some (.int .u64 0) := block_cell h3 rfl
  have c4 : w1.cell? ⟨r, 4, none⟩ = some (.int .i64 0) := block_cell h3 rfl
  have c5 : w1.cell? ⟨r, 5, none⟩ = some (.bool false) := block_cell h3 rfl
  clear hA hS1 h1 h2 h3
  go_wp2_with fail
  clear f1 f2 d0 d1 d2 c0 c1 c2 c3 c4 c5 hs hp hr
  go_loopw [13, 14] (fun o i wr => ∃ (k j : Nat) (ta sa : Option Addr) (tc sc : Nat), o = .slice ta (k + 1) tc ∧ i = .int .i64 (k : Int) ∧ k ≤ n ∧ k ≤ 40 ∧ Hid (Mk w wr s p true m q on l k ta tc sa j sc)) (fun _ i _ => n - (intOf i).toNat)
  case atStart =>
    have hO : ∀ (v1 v2 v3 v4 v5 v6 v7 v8 v9 : Value), Only (fun i => i = p ∨ i = r) w1 (((((((((w1.setCell ⟨p, 0, none⟩ v1).setCell ⟨p, 1, none⟩ v2).setCell ⟨p, 2, none⟩ v3).setCell ⟨r, 0, none⟩ v4).setCell ⟨r, 1, none⟩ v5).setCell ⟨r, 2, none⟩ v6).setCell ⟨r, 3, none⟩ v7).setCell ⟨r, 4, none⟩ v8).setCell ⟨r, 5, none⟩ v9) := fun v1 v2 v3 v4 v5 v6 v7 v8 v9 =>
      (((((((((Only.refl _ _).setCell _ _ (fun _ => .inl rfl)).setCell _ _ (fun _ => .inl rfl)).setCell _ _ (fun _ => .inl rfl)).setCell _ _ (fun _ => .inr rfl)).setCell _ _ (fun _ => .inr rfl)).setCell _ _ (fun _ => .inr rfl)).setCell _ _ (fun _ => .inr rfl)).setCell _ _ (fun _ => .inr rfl)).setCell _ _ (fun _ => .inr rfl)
    have hrp := HSP.out.2.2.2.2.2
    obtain ⟨W5, hW5⟩ : ∃ W5, W5 = (((((((((w1.setCell ⟨p, 0, none⟩ (.bool true)).setCell ⟨p, 1, none⟩ (.int .u64 (q : Int))).setCell ⟨p, 2, none⟩ (.slice none 0 0)).setCell ⟨r, 0, none⟩ (.int .i64 1)).setCell ⟨r, 1, none⟩ (.int .i64 0)).setCell ⟨r, 2, none⟩ (.int .i64 0)).setCell ⟨r, 3, none⟩ (.int .u64 (m : Int))).setCell ⟨r, 4, none⟩ (.int .i64 0)).setCell ⟨r, 5, none⟩ (.bool false)) := ⟨_, rfl⟩
    have h1 : Only (fun i => i = p ∨ i = r) w1 W5 := by rw [hW5]; exact hO _ _ _ _ _ _ _ _ _
    have h2 : W5.heap[p]? = some (.cells #[.bool true, .int .u64 (q : Int), .slice none 0 0] 36 (0, 0)) := by
      rw [hW5]
      exact setCell_other (setCell_other (setCell_other (setCell_other (setCell_other (setCell_other (setCell_heap (setCell_heap (setCell_heap HW1.out.2.2.1 0 _) 1 _) 2 _) _ _ _ hrp) _ _ _ hrp) _ _ _ hrp) _ _ _ hrp) _ _ _ hrp) _ _ _ hrp
    have h3 : W5.heap.size = w1.heap.size := by rw [hW5]; simp only [World.size_setCell]
    rw [← hW5]
    have hM := Mk.start (dense := true) (m := m) (on := on) (l := l) HW1.out.1 HW1.out.2.1 h1 h2 HSP.out h3
    have hc : (stc (firstT true m)).toArray = #[.int .i64 1, .int .i64 0, .int .i64 0, .int .u64 (m : Int), .int .i64 0, .bool false] := rfl
    rw [hc] at hM
    clear hO hW5 h1 h2 h3
    exact ⟨0, 0, some ⟨w1.heap.size, 0, none⟩, none, 1, 0, rfl, rfl, Nat.zero_le _, by omega, Lib.hid hM⟩
  case round =>
    obtain ⟨k, j, ta, sa, tc, sc, rfl, rfl, hk, hk40, HM⟩ := hrel
    clear HW1 HB
    have hbo := HM.out.st.bound
    have hbs := HM.out.set.bound
    by_cases hlt : k < n ∧ k < 40
    · have hlt' : (k : Int) < (n : Int) := by omega
      have hlt40 : (k : Int) < 40 := by omega
      have hk0 : (0 : Int) ≤ (k : Int) := by omega
      obtain ⟨b1, o1, ha1, hb1, hc1⟩ := (HR.out.still HM.out.same).at (by omega)
      obtain ⟨x, hx⟩ := HR.out.get hlt.1
      have g1 := hc1 k x hx
      have HX := Lib.hid hx
      subst ha1
      clear hc1 hx
      obtain ⟨y, hy⟩ : ∃ y : Nat, x % 1152921504606846976 = y := ⟨_, rfl⟩
      have hy60 : y < 1152921504606846976 := by omega
      have e4 : (x : Int) % 1152921504606846976 = (y : Int) := by omega
      have e4w : IntKind.u64.wrap (y : Int) = (y : Int) := by rw [IntKind.wrap_u64]; omega
      have e5w : IntKind.u64.wrap (64 * (q : Int)) = 64 * (q : Int) := by rw [IntKind.wrap_u64]; omega
      have h0 : ¬ (64 * (q : Int)) = 0 := by omega
      have h0b : ((64 * (q : Int)) == 0) = false := by rw [beq_eq_false_iff_ne]; omega
      obtain ⟨z, hz⟩ : ∃ z : Nat, y % (64 * q) = z := ⟨_, rfl⟩
      have hz60 : z < 64 * q := by rw [← hz]; exact Nat.mod_lt _ (by omega)
      have e6 : (y : Int) % (64 * (q : Int)) = (z : Int) := by rw [← hz]; simp
      have e6t : (y : Int).tmod (64 * (q : Int)) = (z : Int) := by rw [Int.tmod_eq_emod_of_nonneg (by omega)]; exact e6
      have e6w : IntKind.u64.wrap (z : Int) = (z : Int) := by rw [IntKind.wrap_u64]; omega
      have HZ : Hid (cutB true q x = z) := Lib.hid (by unfold cutB; rw [if_pos rfl, hy, hz])
      clear hy hz
      have e0 : wr.cell? ⟨p, 1, none⟩ = some (.int .u64 (q : Int)) := block_cell HM.out.arr rfl
      go_wp2_with (at_builtin; refine wpList_append (k + 1 + 1) ((madeT true m q on (l.take k)).flatMap stc ++ stc { op := 3, on := on, k := z }) rfl _ _ _ _ rfl slStp rfl (HM.out.st.1.keep (S := fun _ => False) (by repeat (first | exact Only.refl _ _ | apply Only.alloc | apply Only.drew)) (fun _ _ => id)) rfl (Src.row (size := 6) (cs := #[.int .i64 3, .int .i64 (on : Int), .int .i64 0, .int .u64 (z : Int), .int .i64 0, .bool false]) (t := 40) (fr := (0, 0)) Tryz.underlying33 (by exact heap_alloc_new _ _) 1 1 rfl (by simp [Value.oneCell'])) rfl rfl (by unfold maxLen; omega) (by omega) ?_)
      intro ta2 tc2 w2 hG
      have hO2 : Only (At ta) wr w2 := Only.trans (S := At ta) ((Only.refl (At ta) wr).alloc _) hG.only (fun _ _ h => h)
      have hap : ¬ At ta p := fun h => (HM.out.nt p h).2.1 rfl
      have hb2 := hO2.obj HM.out.arr hap
      have g2 : w2.cell? ⟨p, 2, none⟩ = some (.slice sa j sc) := block_cell hb2 rfl
      have hou : OU w2 sa j sc (madeS true q (l.take k)) := ⟨HM.out.set.1.keep hO2 (fun i hi h => (HM.out.nt i h).2.2 hi), HM.out.set.2⟩
      have hjl : j ≤ 1000000 := by
        have h1 := madeS_len true q (l.take k)
        have h2 := HM.out.set.2
        have h3 : (l.take k).length ≤ k := by rw [List.length_take]; omega
        omega
      have HPUT : Hid (Calls Tryz.prog 25 #[.slice sa j sc, .int .u64 (z : Int)] w2 (PutP (put (madeS true q (l.take k)) z) sa w2)) := Lib.hid (baPut hou (madeS_asc _ _ _) z hjl)
      have HGG := Lib.hid hG
      have HB2 := Lib.hid hb2
      clear hG hO2 hap hb2 hou g1 e0
      go_wp2_with (go_at_call 25; refine HPUT.out.mono ?_)
      rintro e w3 ⟨sa2, sc2, rfl, hP, hS3, hF3⟩
      have HP3 := Lib.hid (And.intro hP (And.intro hS3 hF3))
      have hb3 := hS3.obj HB2.out id
      have f3 : ∀ i, w3.frozen? ⟨p, i, none⟩ = false := fun i => block_free hb3
      have g3 : w3.cell? ⟨p, 2, none⟩ = some (.slice sa j sc) := block_cell hb3 rfl
      obtain ⟨j2, hj2⟩ : ∃ j2, (put (madeS true q (l.take k)) z).length = j2 := ⟨_, rfl⟩
      rw [hj2] at HP3
      rw [hj2]
      have HFIN : Hid (∀ w4, w4 = w3.setCell ⟨p, 2, none⟩ (.slice sa2 j2 sc2) → Mk w w4 s p true m q on l (k + 1) ta2 tc2 sa2 j2 sc2) := Lib.hid (fun w4 h4 => HM.out.step HX.out (by rw [HZ.out]; exact HGG.out) (by rw [HZ.out]; exact HP3.out.1) HP3.out.2.1 HP3.out.2.2 h4)
      clear hP hS3 hF3 hb3 HPUT g2 hj2
      go_wp2_with fail
      go_roundw
      case rel => exact ⟨k + 1, j2, ta2, sa2, tc2, sc2, rfl, by go_num, by omega, by omega, Lib.hid (HFIN.out _ rfl)⟩
      case measure => simp [intOf]; omega
    · have HT : Hid ((l.take 40).length = k ∧ l.take k = l.take 40) := Lib.hid (by
        have h1 := HR.out.2
        rw [List.length_take]
        refine ⟨by omega, ?_⟩
        by_cases e : k = 40
        · rw [e]
        · have : k = n := by omega
          rw [List.take_of_length_le (by omega), List.take_of_length_le (by omega)])
      have c0 : wr.cell? ⟨p, 0, none⟩ = some (.bool true) := block_cell HM.out.arr rfl
      have c1 : wr.cell? ⟨p, 1, none⟩ = some (.int .u64 (q : Int)) := block_cell HM.out.arr rfl
      have c2 : wr.cell? ⟨p, 2, none⟩ = some (.slice sa j sc) := block_cell HM.out.arr rfl
      have d0 : wr.cell? ⟨s, 0, none⟩ = some (.bool false) := block_cell HM.out.res rfl
      have d1 : wr.cell? ⟨s, 1, none⟩ = some (.int .u64 0) := block_cell HM.out.res rfl
      have d2 : wr.cell? ⟨s, 2, none⟩ = some (.slice none 0 0) := block_cell HM.out.res rfl
      have f2 : ∀ i, wr.frozen? ⟨s, i, none⟩ = false := fun i => block_free HM.out.res
      have HQ : Hid (∀ w', Only (fun i => i = s) wr w' → MadeQ true m q on (l.take 40) w (.returned (.tuple #[.slice ta (k + 1) tc, .agg #[.bool true, .int .u64 (q : Int), .slice sa j sc]])) w') := Lib.hid (fun w' hw => by
        have h1 := HM.out.st.keep hw (fun i hi e => (HM.out.nt i hi).1 e)
        have h2 : OU w' sa j sc (madeS true q (l.take k)) := ⟨HM.out.set.1.keep hw (fun i hi e => (HM.out.ns i hi).1 e), HM.out.set.2⟩
        rw [HT.out.2] at h1 h2
        have hj := h2.2
        have hk' := HT.out.1
        refine ⟨ta, tc, sa, sc, by rw [hj, hk'], by rw [hk']; exact h1, by rw [hj]; exact h2, new_only HM.out.same hw (fun i hi => by rw [hi]; exact HM.out.sz.1), fun i => ⟨fun hi => ⟨HM.out.new i (.inl hi), (HM.out.nt i hi).2.2⟩, fun hi => HM.out.new i (.inr hi)⟩⟩)
      have hO : ∀ v1 v2 v3 : Value, Only (fun i => i = s) wr (((wr.setCell ⟨s, 0, none⟩ v1).setCell ⟨s, 1, none⟩ v2).setCell ⟨s, 2, none⟩ v3) := fun v1 v2 v3 => (((Only.refl (fun i => i = s) wr).setCell ⟨s, 0, none⟩ v1 (fun _ => rfl)).setCell ⟨s, 1, none⟩ v2 (fun _ => rfl)).setCell ⟨s, 2, none⟩ v3 (fun _ => rfl)
      have HO := Lib.hid hO
      clear hO
      by_cases hkn : k < n
      · have hlt' : (k : Int) < (n : Int) := by omega
        have hlt40 : ¬ (k : Int) < 40 := by omega
        go_wp2_with fail
        go_region
        all_goals
          go_wp2_with fail
          exact ret_made rfl rfl (setCell_heap (setCell_heap (setCell_heap HM.out.res 0 _) 1 _) 2 _) (HQ.out _ (HO.out _ _ _).drew)
      · have hlt' : ¬ (k : Int) < (n : Int) := by omega
        go_wp2_with fail
        go_region
        all_goals
          go_wp2_with fail
          exact ret_made rfl rfl (setCell_heap (setCell_heap (setCell_heap HM.out.res 0 _) 1 _) 2 _) (HQ.out _ (HO.out _ _ _).drew)
end Go.Proofs.YtacjkbljokjdkaaGreat.ba
namespace Go.Proofs.YtacjkbljokjdkaaGreat.ba
open Go.RowKit Go.Proofs.YtacjkbljokjdkaaGreat.base Go.Proofs.YtacjkbljokjdkaaGreat.heap Go.Proofs.YtacjkbljokjdkaaGreat.rows Go.Proofs.YtacjkbljokjdkaaGreat.bit Go.Proofs.YtacjkbljokjdkaaGreat.bs
set_option linter.unusedVariables false
set_option maxRecDepth 100000 in
set_option maxHeartbeats 1600000 in
theorem baAnswers (a : Option Addr) (n cap : Nat) (ts : List Stp) (ys : List Ans) (w : World) (hl : RS stc 6 w a n cap ts) (hn : n ≤ 1000) (hr : Runs [] ts ys) :
    Calls Tryz.prog 21 #[.slice a n cap] w (RunP ys w) := by
  have hbd := hl.bound
  have HR := Lib.hid (baRun a n cap ts ys w hl hn hr)
  have hlen : ys.length = n := by rw [hr.len, hl.2]
  clear hl hr
  go_enter Tryz.func21, Tryz.ntmps21
  go_wp2_with fail
  refine HR.out.mono ?_
  rintro e w1 ⟨oa, oc, As, rfl, h1, h2, h3, h4, h5⟩
  have hbo := h1.bound
  have HA := Lib.hid h1
  have HX : Hid (As.map (·.an) = ys ∧ (∀ x ∈ As, Own 34 1 w1 x.na x.an.nums.length x.nc (U x.an.nums) ∧ ∀ j, At x.na j → w.heap.size ≤ j) ∧ (∀ j, At oa j → w.heap.size ≤ j) ∧ Same w w1) := Lib.hid ⟨h2, h3, h4, h5⟩
  clear h1 h2 h3 h4 h5
  rw [hlen] at hbo HA ⊢
  go_wp2_with fail
  go_loopw [4] (fun i wr => ∃ k : Nat, k ≤ n ∧ i = .int .i64 (k : Int) ∧ Hid (Same w1 wr)) (fun i _ => n - (intOf i).toNat)
  case atStart => exact ⟨0, Nat.zero_le _, rfl, Lib.hid (Only.refl _ _)⟩
  case round =>
    obtain ⟨k, hk, rfl, HO⟩ := hrel
    by_cases hlt : k < n
    · have hlt' : (k : Int) < (n : Int) := by omega
      have hk0 : (0 : Int) ≤ (k : Int) := by omega
      obtain ⟨b, off, ha, hb, hc⟩ := (HA.out.still HO.out).at anc_len (by omega)
      obtain ⟨x, hx⟩ := HA.out.get hlt
      have c3 : wr.cell? ⟨b, off + k * 4 + 3, none⟩ = some (.bool false) := hc k x hx 3 _ rfl
      subst ha
      clear hc hx
      go_wp2_with fail
      go_roundw
      case rel => exact ⟨k + 1, by omega, by go_num, Lib.hid HO.out⟩
      case measure => simp [intOf]; omega
    · have hlt' : ¬ (k : Int) < (n : Int) := by omega
      go_wp2_with fail
      go_ret
      refine ⟨oa, oc, As, by rw [hlen]; rfl, by rw [hlen]; exact HA.out.still HO.out, HX.out.1, fun x hx => ⟨(HX.out.2.1 x hx).1.keep HO.out (fun _ _ => id), (HX.out.2.1 x hx).2⟩, HX.out.2.2.1, Same.trans HX.out.2.2.2 HO.out⟩
end Go.Proofs.YtacjkbljokjdkaaGreat.ba
namespace Go.Proofs.YtacjkbljokjdkaaGreat.ba
open Go.RowKit Go.Proofs.YtacjkbljokjdkaaGreat.base Go.Proofs.YtacjkbljokjdkaaGreat.heap Go.Proofs.YtacjkbljokjdkaaGreat.rows Go.Proofs.YtacjkbljokjdkaaGreat.bit Go.Proofs.YtacjkbljokjdkaaGreat.bs
set_option linter.unusedVariables false
/-- steps that leave s' -/
def Goes : List BA → List Stp → List Ans → List BA → Prop
  | s, [], ys, s' => ys = [] ∧ s' = s
  | s, t :: ts, ys, s' => s.length ≤ 1000 ∧ ∃ s1 an ys', Does s t s1 an ∧ ys = an :: ys' ∧ Goes s1 ts ys' s'
theorem Goes.runs : ∀ {s : List BA} {ts : List Stp} {ys : List Ans} {s' : List BA}, Goes s ts ys s' → ∀ {ts2 : List Stp} {ys2 : List Ans}, Runs s' ts2 ys2 → Runs s (ts ++ ts2) (ys ++ ys2)
  | s, [], ys, s', ⟨h1, h2⟩, ts2, ys2, h => by subst h1; subst h2; exact h
  | s, t :: ts, ys, s', ⟨h0, s1, an, ys', h1, h2, h3⟩, ts2, ys2, h => by
    subst h2
    exact ⟨h0, s1, an, ys' ++ ys2, h1, rfl, h3.runs h⟩
theorem Goes.snoc : ∀ {s : List BA} {ts : List Stp} {ys : List Ans} {s' : List BA}, Goes s ts ys s' → s'.length ≤ 1000 → ∀ {t : Stp} {s2 : List BA} {an : Ans}, Does s' t s2 an → Goes s (ts ++ [t]) (ys ++ [an]) s2
  | s, [], ys, s', ⟨h1, h2⟩, hl, t, s2, an, h => by subst h1; subst h2; exact ⟨hl, s2, an, [], h, rfl, rfl, rfl⟩
  | s, t :: ts, ys, s', ⟨h0, s1, an, ys', h1, h2, h3⟩, hl, t', s2, an', h => by
    subst h2
    exact ⟨h0, s1, an, ys' ++ [an'], h1, rfl, h3.snoc hl h⟩
theorem Goes.len : ∀ {s : List BA} {ts : List Stp} {ys : List Ans} {s' : List BA}, Goes s ts ys s' → ys.length = ts.length
  | s, [], ys, s', ⟨h1, h2⟩ => by subst h1; rfl
  | s, t :: ts, ys, s', ⟨h0, s1, an, ys', h1, h2, h3⟩ => by subst h2; simp [h3.len]
theorem cutB_lt {q x : Nat} (hq : 1 ≤ q) : cutB true q x < 64 * q := by unfold cutB; rw [if_pos rfl]; exact Nat.mod_lt _ (by omega)
/-- making a dense array -/
theorem goes_madeD (s : List BA) (on m q : Nat) (L : List Nat) (hon : s.length = on) (hon2 : on < 999) (hm : m ≤ 1000) (hq : (m + 63) / 64 = q) (hq1 : 1 ≤ q) : ∃ ys, ys.length = L.length + 1 ∧ Goes s (madeT true m q on L) ys (s ++ [⟨true, q, madeS true q L⟩]) := by
  suffices h : ∀ k, k ≤ L.length → ∃ ys, Goes s (madeT true m q on (L.take k)) ys (s ++ [⟨true, q, madeS true q (L.take k)⟩]) by
    obtain ⟨ys, h⟩ := h L.length (Nat.le_refl _)
    rw [List.take_of_length_le (Nat.le_refl _)] at h
    exact ⟨ys, by rw [h.len]; simp [madeT], h⟩
  intro k
  induction k with
  | zero =>
    intro _
    refine ⟨[{}], by omega, s ++ [⟨true, q, []⟩], {}, [], ?_, rfl, rfl, rfl⟩
    have := does_dense s m (by omega)
    rw [hq] at this
    exact this
  | succ k ih =>
    intro hk
    obtain ⟨ys, h⟩ := ih (by omega)
    have hx : L[k]? = some L[k] := List.getElem?_eq_getElem (by omega)
    rw [madeT_snoc _ _ _ _ _ _ _ hx, madeS_snoc _ _ _ _ _ hx]
    refine ⟨ys ++ [{ yes := true }], h.snoc (by simp; omega) ?_⟩
    have hd : (s ++ [(⟨true, q, madeS true q (L.take k)⟩ : BA)])[on]? = some ⟨true, q, madeS true q (L.take k)⟩ := by rw [← hon]; simp
    have := does_setD hd rfl (cutB true q L[k]) (cutB_lt hq1)
    have e : (s ++ [(⟨true, q, madeS true q (L.take k)⟩ : BA)]).set on ⟨true, q, put (madeS true q (L.take k)) (cutB true q L[k])⟩ = s ++ [⟨true, q, put (madeS true q (L.take k)) (cutB true q L[k])⟩] := by
      rw [← hon, List.set_append_right _ _ (Nat.le_refl _)]; simp
    rw [← e]
    exact this
/-- the steps of a law on what two arrays make -/
def twoT (op : Nat) : List Stp := [{ op := op, on := 0, by_ := 1 }, { op := 14, on := 2 }, { op := 10, on := 2 }, { op := 15, on := 2 }, { op := 14, on := 0 }, { op := 14, on := 1 }]
/-- their answers -/
def twoY (A B C : List Nat) : List Ans := [{}, { nums := C }, { n := C.length }, { yes := C.isEmpty }, { nums := A }, { nums := B }]
theorem runs_two {x y z : BA} {op : Nat} (hx : x.dense = true) (hy : y.dense = true) (hz : z.dense = true) (h : Does [x, y] { op := op, on := 0, by_ := 1 } [x, y, z] {}) : Runs [x, y] (twoT op) (twoY x.set y.set z.set) := by
  have h2 : ([x, y, z] : List BA)[2]? = some z := rfl
  have h0 : ([x, y, z] : List BA)[0]? = some x := rfl
  have h1 : ([x, y, z] : List BA)[1]? = some y := rfl
  exact ⟨by simp, _, _, _, h, rfl, by simp, _, _, _, does_numsD h2 hz, rfl, by simp, _, _, _, does_countD h2 hz, rfl, by simp, _, _, _, does_emptyD h2 hz, rfl, by simp, _, _, _, does_numsD h0 hx, rfl, by simp, _, _, _, does_numsD h1 hy, rfl, rfl⟩
/-- the whole run of such a law -/
theorem runs_madeD {op m1 q1 m2 q2 : Nat} {L1 L2 : List Nat} {z : BA} (hm1 : m1 ≤ 1000) (hq1 : (m1 + 63) / 64 = q1) (h1 : 1 ≤ q1) (hm2 : m2 ≤ 1000) (hq2 : (m2 + 63) / 64 = q2) (h2 : 1 ≤ q2) (hz : z.dense = true)
    (h : Does [⟨true, q1, madeS true q1 L1⟩, ⟨true, q2, madeS true q2 L2⟩] { op := op, on := 0, by_ := 1 } [⟨true, q1, madeS true q1 L1⟩, ⟨true, q2, madeS true q2 L2⟩, z] {}) :
    ∃ Y, Y.length = L1.length + 1 + (L2.length + 1) ∧ Runs [] (madeT true m1 q1 0 L1 ++ madeT true m2 q2 1 L2 ++ twoT op) (Y ++ twoY (madeS true q1 L1) (madeS true q2 L2) z.set) := by
  obtain ⟨Y1, l1, g1⟩ := goes_madeD [] 0 m1 q1 L1 rfl (by omega) hm1 hq1 h1
  obtain ⟨Y2, l2, g2⟩ := goes_madeD [⟨true, q1, madeS true q1 L1⟩] 1 m2 q2 L2 rfl (by omega) hm2 hq2 h2
  refine ⟨Y1 ++ Y2, by rw [List.length_append, l1, l2], ?_⟩
  rw [List.append_assoc, List.append_assoc]
  exact g1.runs (g2.runs (runs_two rfl rfl hz h))
end Go.Proofs.YtacjkbljokjdkaaGreat.ba

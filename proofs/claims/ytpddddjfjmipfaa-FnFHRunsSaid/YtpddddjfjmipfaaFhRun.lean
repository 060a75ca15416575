/-
  FHRun: the walk.
-/
import Derived.Test.YtpddddjfjmipfaaFhStep3
namespace Go.Proofs.Ytpddddjfjmipfaa.fh
open Go.RowKit Go.Proofs.Ytpddddjfjmipfaa.base Go.Proofs.Ytpddddjfjmipfaa.heap Go.Proofs.Ytpddddjfjmipfaa.rows Go.Proofs.Ytpddddjfjmipfaa.flt
set_option linter.unusedVariables false

def stc (s : Stp) : List Value := [.int .i64 s.op, .int .i64 s.n, .int .i64 s.p, .slice s.a s.m s.cap]
theorem stc_len (s : Stp) : (stc s).length = 4 := rfl
theorem stc_one (x : Stp) : ∀ u ∈ stc x, u.oneCell' = true := by
  intro u hu
  simp only [stc, List.mem_cons, List.not_mem_nil, or_false] at hu
  rcases hu with rfl | rfl | rfl | rfl <;> rfl
theorem anc_len (s : An) : (anc s).length = 5 := rfl
theorem anc_one (x : An) : ∀ u ∈ anc x, u.oneCell' = true := by
  intro u hu
  simp only [anc, List.mem_cons, List.not_mem_nil, or_false] at hu
  rcases hu with rfl | rfl | rfl | rfl | rfl <;> rfl
/-- how many there are -/
def cnt (S : Pris) : Nat := (S.filter Option.isSome).length
/-- an answer, with the size behind the step -/
def full (x : An) (S : Pris) : An := { x with size := (cnt S : Int), emp := (cnt S == 0) }
structure Okay (s : Stp) : Prop where
  op : 1 ≤ s.op ∧ s.op ≤ 6
  p : s.p.natAbs ≤ Big
  m : s.m ≤ 40
  len : s.L.length = s.m
  sm : ∀ p ∈ s.L, p.natAbs ≤ Big
inductive Ran : List Stp → List An → Pris → Prop
  | nil : Ran [] [] []
  | snoc {l : List Stp} {As : List An} {S : Pris} {s : Stp} {x : An} {S' : Pris} : Ran l As S → Stepd S s x S' → Ran (l ++ [s]) (As ++ [full x S']) S'
theorem Stepd.len {S S' : Pris} {s : Stp} {x : An} (h : Stepd S s x S') (ho : Okay s) : S'.length ≤ S.length + 41 := by
  have := ho.m
  have := ho.len
  cases h <;> simp <;> omega
theorem cnt_len {X : List Ent} : cnt (tag X) = (X.filterMap (Option.map (·.1))).length := by
  unfold cnt tag
  induction X with
  | nil => rfl
  | cons y X ih =>
    cases y with
    | none => simpa using ih
    | some up => simpa using ih
theorem Fh.count {w : World} {gb hb : Nat} {ea : Option Addr} {ec : Nat} {X : List Ent} {A : List Nat} {pr : Nat → Nat} (h : Fh w gb hb ea ec X A pr) : A.length = cnt (tag X) := by
  rw [cnt_len]
  have hn : (X.filterMap (Option.map (·.1))).Nodup := by
    have hu := h.uniq
    clear h
    induction X with
    | nil => exact List.nodup_nil
    | cons y X ih =>
      have ih' := ih (fun i j u p q hi hj => by have := hu (i + 1) (j + 1) u p q (by simpa using hi) (by simpa using hj); omega)
      cases y with
      | none => simpa using ih'
      | some up =>
        obtain ⟨u, p⟩ := up
        simp only [List.filterMap_cons, Option.map_some, List.nodup_cons]
        refine ⟨fun hm => ?_, ih'⟩
        obtain ⟨y, hy, hyu⟩ := List.mem_filterMap.1 hm
        cases y with
        | none => simp at hyu
        | some vq =>
          obtain ⟨v, q⟩ := vq
          simp at hyu
          subst hyu
          obtain ⟨j, hj⟩ := List.getElem?_of_mem hy
          have := hu 0 (j + 1) v p q rfl (by simpa using hj)
          omega
  have hm : ∀ u, u ∈ A ↔ u ∈ X.filterMap (Option.map (·.1)) := fun u => by
    rw [h.live u, List.mem_filterMap]
    constructor
    · rintro ⟨p, hp⟩
      exact ⟨_, hp, rfl⟩
    · rintro ⟨y, hy, hyu⟩
      cases y with
      | none => simp at hyu
      | some vq =>
        obtain ⟨v, q⟩ := vq
        simp at hyu
        subst hyu
        exact ⟨q, hy⟩
  exact Nat.le_antisymm (len_sub h.heap.nodup (fun b hb => (hm b).1 hb)) (len_sub hn (fun b hb => (hm b).2 hb))
/-- in the course of the run -/
structure Inv (w wr : World) (gb hb : Nat) (ea : Option Addr) (ec : Nat) (X : List Ent) (A : List Nat) (pr : Nat → Nat) (l : List Stp) (oa : Option Addr) (k oc : Nat) (As : List An) : Prop where
  fh : Fh wr gb hb ea ec X A pr
  out : OS 35 anc 5 wr oa k oc As
  new : ∀ j, FG gb hb ea A j ∨ At oa j → w.heap.size ≤ j
  apart : ∀ j, At oa j → ¬ FG gb hb ea A j
  same : Same w wr
  ran : Ran (l.take k) As (tag X)
  len : X.length ≤ k * 41
def RunPost (w : World) (l : List Stp) (n : Nat) (e : Ending) (w' : World) : Prop :=
  ∃ oa oc As S, e = .returned (.slice oa n oc) ∧ RS anc 5 w' oa n oc As ∧ (∀ j, At oa j → w.heap.size ≤ j) ∧ Ran l As S ∧ Same w w'
theorem slAn : SliceOf Try.prog 24 35 5 40 := SliceOf.mk (z := .agg #[.bool false, .int .i64 0, .int .i64 0, .int .i64 0, .bool false]) Try.underlying24 (by kernel_rfl) rfl
theorem Inv.step {w wr w2 w3 w4 w5 : World} {gb hb hb' : Nat} {ea ea' oa oa2 : Option Addr} {ec ec' k oc oc2 : Nat} {X X' : List Ent} {A A' : List Nat} {pr pr' : Nat → Nat} {l : List Stp} {As : List An} {s : Stp} {x : An} (h : Inv w wr gb hb ea ec X A pr l oa k oc As) (hk : l[k]? = some s) (ho : Okay s)
    (hs : Same wr w2) (hn : Fh w3 gb hb' ea' ec' X' A' pr') (hO : Only (FG gb hb ea A) w2 w3) (hf : ∀ k, FG gb hb' ea' A' k → FG gb hb ea A k ∨ w2.heap.size ≤ k) (hst : Stepd (tag X) s x (tag X'))
    (h34 : Same w3 w4) (hG : Grew 35 5 w4 w5 oa oa2 1 (k + 1) oc oc2 (As.flatMap anc ++ anc (full x (tag X')))) :
    Inv w w5 gb hb' ea' ec' X' A' pr' l oa2 (k + 1) oc2 (As ++ [full x (tag X')]) := by
  have hO4 : Only (At oa) w3 w5 := Only.trans (S := At oa) (h34.mono (fun _ _ f => f.elim)) hG.only (fun _ _ h => h)
  have z0 := h.same.size
  have z1 := hs.size
  have z2 := hO.size
  have z3 := h34.size
  have hoa : ∀ j, At oa j → j < wr.heap.size := h.out.1.lt
  have hap : ∀ j, At oa j → ¬ FG gb hb' ea' A' j := fun j hj hf' => by
    rcases hf j hf' with h' | h'
    · exact h.apart j hj h'
    · have := hoa j hj; omega
  have hfr : ∀ j, At oa2 j → At oa j ∨ w3.heap.size ≤ j := fun j hj => (hG.fresh j hj).imp id (fun h' => by omega)
  have hnl := hn.lt
  refine ⟨hn.keep hO4 (fun j hj hc => hap j hc hj), ⟨by rw [flat_snoc]; exact hG.own, by rw [List.length_append, h.out.2]; rfl⟩, fun j hj => ?_, fun j hj hf' => ?_, ?_, ?_, ?_⟩
  · rcases hj with hj | hj
    · rcases hf j hj with h' | h'
      · exact h.new j (.inl h')
      · omega
    · rcases hfr j hj with h' | h'
      · exact h.new j (.inr h')
      · omega
  · rcases hfr j hj with h' | h'
    · exact hap j h' hf'
    · have := hnl j hf'; omega
  · have h1 : Only (fun j => w.heap.size ≤ j) wr w3 := Only.trans (S := fun j => w.heap.size ≤ j) (hs.mono (fun _ _ h => h.elim)) hO (fun j _ hj => h.new j (.inl hj))
    have h2 : Only (fun j => w.heap.size ≤ j) wr w5 := h1.trans hO4 (fun j _ hj => h.new j (.inr hj))
    exact new_only h.same h2 (fun j hj => hj)
  · rw [take_snoc l k s hk]
    exact .snoc h.ran hst
  · have h1 := hst.len ho
    rw [tag_len, tag_len] at h1
    have := h.len
    rw [Nat.add_mul]
    omega

set_option maxRecDepth 100000 in
set_option maxHeartbeats 6400000 in
theorem fhRun (a : Option Addr) (n cap : Nat) (l : List Stp) (w : World) (hl : RS stc 4 w a n cap l) (hn : n ≤ 1000) (hs : ∀ s ∈ l, Okay s ∧ RL iv w s.a s.m s.cap s.L) :
    Calls Try.prog 8 #[.slice a n cap] w (RunPost w l n) := by
  have hbd := hl.bound
  have HR := Lib.hid hl
  have HS := Lib.hid hs
  have HN := Lib.hid (newHeap w)
  clear hl hs
  go_enter Try.func8, Try.ntmps8
  go_wp2_with fail
  refine HN.out.mono ?_
  rintro e w1 ⟨rfl, hs1⟩
  have HI0 : Hid (Inv w ((w1.alloc (.cells #[.pointer none, .int .u64 0] 48)).alloc (.cells #[pp w1.heap.size, .slice none 0 0] 54)) (w1.heap.size + 1) w1.heap.size none 0 [] [] (fun _ => 0) l none 0 0 []) := Lib.hid (by
    have z1 := hs1.size
    have hh : HObj ((w1.alloc (.cells #[.pointer none, .int .u64 0] 48)).alloc (.cells #[pp w1.heap.size, .slice none 0 0] 54)) w1.heap.size none 0 := ((Only.refl (fun _ => False) (w1.alloc (.cells #[.pointer none, .int .u64 0] 48))).alloc _).obj (heap_alloc_new _ _) id
    have h0 : ∀ b : Nat, b ∈ ([] : List Nat) → False := fun b hb => absurd hb List.not_mem_nil
    refine ⟨⟨heap_alloc_new' _ _ _ (by simp), OL.nil _ _ _, .empty hh _, fun hf => ?_, fun hf => hf, fun k hk => hk.elim, fun u => ⟨fun hu => (h0 u hu).elim, fun ⟨p, hp⟩ => absurd hp List.not_mem_nil⟩, fun i j u p q hi => by simp at hi, fun u p hu => absurd hu List.not_mem_nil⟩, OS.nil _ _ _ _, fun j hj => ?_, fun j hj => hj.elim, (hs1.alloc _).alloc _, .nil, by simp⟩
    · rcases hf with e | hf
      · omega
      · exact h0 _ hf
    · rcases hj with (e | (e | hj) | hj) | hj
      · omega
      · omega
      · exact (h0 _ hj).elim
      · exact hj.elim
      · exact hj.elim)
  clear hs1 HN
  go_wp2_with fail
  generalize ((w1.alloc (.cells #[.pointer none, .int .u64 0] 48)).alloc (.cells #[pp w1.heap.size, .slice none 0 0] 54)) = w2 at HI0 ⊢
  generalize w1.heap.size + 1 = gb at HI0 ⊢
  generalize w1.heap.size = hb0 at HI0 ⊢
  go_loopw [5, 14] (fun o i wr => ∃ (k hb : Nat) (ea : Option Addr) (ec : Nat) (X : List Ent) (A : List Nat) (pr : Nat → Nat) (oa : Option Addr) (oc : Nat) (As : List An), o = .slice oa k oc ∧ i = .int .i64 (k : Int) ∧ k ≤ n ∧ Hid (Inv w wr gb hb ea ec X A pr l oa k oc As)) (fun _ i _ => n - (intOf i).toNat)
  case atStart => exact ⟨0, hb0, none, 0, [], [], _, none, 0, [], rfl, rfl, Nat.zero_le _, HI0⟩
  case round =>
    clear HI0
    obtain ⟨k, hb, ea, ec, X, A, pr, oa, oc, As, rfl, rfl, hk, HI⟩ := hrel
    have hbo := HI.out.out.bound
    by_cases hlt : k < n
    · have hlt' : (k : Int) < (n : Int) := by omega
      obtain ⟨b, off, ha, hb', hc⟩ := (HR.out.still HI.out.same).at stc_len (by omega)
      obtain ⟨s, hsk⟩ := HR.out.get hlt
      have hc2 := hc k s hsk
      have c0 : wr.cell? ⟨b, off + k * 4, none⟩ = some (.int .i64 s.op) := hc2 0 _ rfl
      have c1 : wr.cell? ⟨b, off + k * 4 + 1, none⟩ = some (.int .i64 s.n) := hc2 1 _ rfl
      have c2 : wr.cell? ⟨b, off + k * 4 + 2, none⟩ = some (.int .i64 s.p) := hc2 2 _ rfl
      have c3 : wr.cell? ⟨b, off + k * 4 + 3, none⟩ = some (.slice s.a s.m s.cap) := hc2 3 _ rfl
      have HSK := Lib.hid hsk
      subst ha
      clear hc hc2 hsk
      have HOK := Lib.hid (HS.out s (List.mem_of_getElem? HSK.out))
      have HP : Hid (∀ wx, Same wr wx → Calls Try.prog 16 #[pp gb, .agg #[.int .i64 s.op, .int .i64 s.n, .int .i64 s.p, .slice s.a s.m s.cap]] wx (StPost gb hb ea A X s wx)) := Lib.hid (fun wx hx => by
        have h1 := HI.out.len
        have h2 := HI.out.fh.count
        have h3 : cnt (tag X) ≤ X.length := by rw [cnt_len]; exact List.length_filterMap_le _ _
        have hm := HOK.out.1.m
        refine stepAny wx gb hb ea ec X A pr (HI.out.fh.still hx) s HOK.out.1.op (by omega) (by omega) HOK.out.1.p ((HOK.out.2.still HI.out.same).still hx) (by omega) (fun h4 j hj hf => ?_) HOK.out.1.sm
        obtain ⟨b2, off2, ha2, hb2, _⟩ := HOK.out.2.at h4
        rw [ha2] at hj
        have hj' : b2 = j := hj
        have := HI.out.new j (.inl hf)
        omega)
      go_wp2_with fail
      have hS2 : Same wr (wr.alloc (.cells #[.int .i64 s.op, .int .i64 s.n, .int .i64 s.p, .slice s.a s.m s.cap] 31)) := (Only.refl _ _).alloc _
      obtain ⟨w2', hw2⟩ : ∃ w2', wr.alloc (.cells #[.int .i64 s.op, .int .i64 s.n, .int .i64 s.p, .slice s.a s.m s.cap] 31) = w2' := ⟨_, rfl⟩
      rw [hw2] at hS2 ⊢
      have HS2 := Lib.hid hS2
      clear hw2 hS2 c0 c1 c2 c3
      refine (HP.out _ HS2.out).mono ?_
      rintro e w3 ⟨x, hb2, ea2, ec2, X2, A2, pr2, rfl, hf3, hO3, hn3, hst, hx0, hx1⟩
      obtain ⟨xi, xe, xp, xs, xm⟩ := x
      obtain rfl : xs = 0 := hx0
      obtain rfl : xm = false := hx1
      have HX : Hid (Fh w3 gb hb2 ea2 ec2 X2 A2 pr2 ∧ Only (FG gb hb ea A) w2' w3 ∧ (∀ k, FG gb hb2 ea2 A2 k → FG gb hb ea A k ∨ w2'.heap.size ≤ k) ∧ Stepd (tag X) s ⟨xi, xe, xp, 0, false⟩ (tag X2)) := Lib.hid ⟨hf3, hO3, hn3, hst⟩
      have d0 : w3.cell? ⟨gb, 0, none⟩ = some (pp hb2) := block_cell hf3.obj rfl
      have lg3 := lt_of_heap hf3.obj
      have hcn := hf3.count
      obtain ⟨mn2, hob3⟩ := hf3.heap.obj
      obtain ⟨na, hna⟩ : ∃ na, A2.length = na := ⟨_, rfl⟩
      have hnb : na < 100000 := by
        have h1 := hst.len HOK.out.1
        rw [tag_len, tag_len] at h1
        have h2 := HI.out.len
        have h3 : cnt (tag X2) ≤ X2.length := by rw [cnt_len]; exact List.length_filterMap_le _ _
        omega
      rw [hna] at hob3 hcn
      have HCN := Lib.hid hcn
      have hbl : hb2 < w3.heap.size := hob3.lt
      obtain ⟨w5, hw5⟩ : ∃ w5, w3.alloc (.cells #[.bool xi, .int .i64 xe, .int .i64 xp, .int .i64 0, .bool false] 35) = w5 := ⟨_, rfl⟩
      have HW5 := Lib.hid hw5
      have hs5 : Same w3 w5 := by rw [← hw5]; exact (Only.refl _ _).alloc _
      have hg5 : w5.heap[w3.heap.size]? = some (.cells #[.bool xi, .int .i64 xe, .int .i64 xp, .int .i64 0, .bool false] 35 (0, 0)) := by rw [← hw5]; exact heap_alloc_new _ _
      have hob5 := hob3.keep hs5 id
      obtain ⟨g8, hg8⟩ : ∃ g8, w3.heap.size = g8 := ⟨_, rfl⟩
      have HG8 := Lib.hid hg8
      rw [hg8] at hg5 hbl lg3
      have e0 : w5.cell? ⟨gb, 0, none⟩ = some (pp hb2) := (hs5.cell (p := ⟨gb, 0, none⟩) (by show gb < _; omega) id).trans d0
      have lg5 := Nat.lt_of_lt_of_le lg3 (by rw [← hg8]; exact hs5.size)
      have HS5 := Lib.hid (And.intro hs5 hg5)
      have f3 : w5.cell? ⟨g8, 3, none⟩ = some (.int .i64 0) := block_cell hg5 rfl
      have f4 : w5.cell? ⟨g8, 4, none⟩ = some (.bool false) := block_cell hg5 rfl
      have ff : ∀ i, w5.frozen? ⟨g8, i, none⟩ = false := fun i => block_free hg5
      have HSZ : Hid (∀ wx, Only (fun k => k = g8) w5 wx → Calls Try.prog 17 #[pp hb2] wx fun e w' => e = .returned (.int .u64 (na : Int)) ∧ wx = w') := Lib.hid (fun wx ho => size wx hb2 na mn2 (hob5.keep ho (by omega)))
      have HEM : Hid (∀ wx, Only (fun k => k = g8) w5 wx → Calls Try.prog 18 #[pp hb2] wx fun e w' => e = .returned (.bool (na == 0)) ∧ wx = w') := Lib.hid (fun wx ho => isEmpty wx hb2 na mn2 (hob5.keep ho (by omega)))
      have HKK : Hid (∀ wx, Only (fun k => k = g8) w5 wx → wx.cell? ⟨gb, 0, none⟩ = some (pp hb2)) := Lib.hid (fun wx ho => (ho.cell (p := ⟨gb, 0, none⟩) lg5 (by show ¬ gb = _; omega)).trans e0)
      have HKD : Hid (∀ v v', ((w5.setCell ⟨g8, 3, none⟩ v).setCell ⟨g8, 4, none⟩ v').drew.cell? ⟨gb, 0, none⟩ = some (pp hb2)) := Lib.hid (fun v v' => HKK.out _ (Only.drew (Only.setCell (Only.setCell (Only.refl (fun k => k = g8) w5) ⟨g8, 3, none⟩ v (fun _ => rfl)) ⟨g8, 4, none⟩ v' (fun _ => rfl))))
      have hgg : g8 ≠ gb := by omega
      have hwrap : IntKind.i64.wrap (na : Int) = (na : Int) := IntWalk.i64_in _ (by omega)
      have hanv : anv ⟨xi, xe, xp, 0, false⟩ = .agg #[.bool xi, .int .i64 xe, .int .i64 xp, .int .i64 0, .bool false] := rfl
      rw [hanv]
      clear hf3 hO3 hn3 hst hcn hob3 hna hanv HP hw5 hs5 hg5 hob5 hg8 d0 e0
      go_wp2_with fail
      rw [HG8.out, HW5.out]
      go_upto_region 8 with fail
      go_cut [] (fun wx => Hid (wx = ((w5.setCell ⟨g8, 3, none⟩ (.int .i64 (na : Int))).setCell ⟨g8, 4, none⟩ (.bool (na == 0))).drew))
      case first =>
        clear HI HX HS HR HSK HOK HCN hbd hbo
        go_region_held3 (fun w' => w'.cell? ⟨gb, 0, none⟩ = some (pp hb2))
          (first
          | (with_reducible show World.cell? (World.drew w5) _ = _; with_reducible exact HKK.out _ (Only.drew (Only.refl _ _)))
          | (with_reducible show World.cell? (World.drew (World.setCell w5 _ _)) _ = _; with_reducible exact HKK.out _ (Only.drew (Only.setCell (Only.refl _ _) _ _ (fun _ => rfl))))
          | (with_reducible show World.cell? (World.drew (World.setCell (World.setCell w5 _ _) _ _)) _ = _; with_reducible exact HKD.out _ _)
          | fail)
          (first
          | ((go_at_call 17; (with_reducible refine (HSZ.out _ (Only.drew (Only.refl _ _))).mono ?_); rintro e wy ⟨rfl, rfl⟩))
          | ((go_at_call 18; (with_reducible refine (HEM.out _ (Only.drew (Only.refl _ _))).mono ?_); rintro e wy ⟨rfl, rfl⟩))
          | fail)
        all_goals
          go_wp2_with fail
          go_meet
          exact Lib.hid rfl
      case rest =>
        clear HSZ HEM HKK HKD hwrap f3 f4 ff
        obtain ⟨w6, hw6⟩ : ∃ w6, w6 = wc := ⟨_, rfl⟩
        rw [← hw6] at hcut ⊢
        clear hw6
        have hs6 : Only (fun k => k = g8) w5 w6 := by rw [hcut.out]; exact Only.drew (Only.setCell (Only.setCell (Only.refl (fun k => k = g8) w5) ⟨g8, 3, none⟩ _ (fun _ => rfl)) ⟨g8, 4, none⟩ _ (fun _ => rfl))
        have hg6 : w6.heap[g8]? = some (.cells #[.bool xi, .int .i64 xe, .int .i64 xp, .int .i64 (na : Int), .bool (na == 0)] 35 (0, 0)) := by
          rw [hcut.out]
          exact setCell_heap (setCell_heap HS5.out.2 3 (.int .i64 (na : Int))) 4 (.bool (na == 0))
        have u0 : w6.cell? ⟨g8, 0, none⟩ = some (.bool xi) := block_cell hg6 rfl
        have u1 : w6.cell? ⟨g8, 1, none⟩ = some (.int .i64 xe) := block_cell hg6 rfl
        have u2 : w6.cell? ⟨g8, 2, none⟩ = some (.int .i64 xp) := block_cell hg6 rfl
        have u3 : w6.cell? ⟨g8, 3, none⟩ = some (.int .i64 (na : Int)) := block_cell hg6 rfl
        have u4 : w6.cell? ⟨g8, 4, none⟩ = some (.bool (na == 0)) := block_cell hg6 rfl
        have HS36 : Hid (Same w3 w6) := Lib.hid (Only.trans (S := fun _ => False) HS5.out.1 hs6 (fun k hk e => by have := HG8.out; have e' : k = g8 := e; omega))
        have HOW : Hid (OS 35 anc 5 w6 oa k oc As) := Lib.hid (((HI.out.out.still HS2.out).keep HX.out.2.1 (fun j hj hf => HI.out.apart j hj hf)).still HS36.out)
        obtain ⟨em, hem⟩ : ∃ em, (na == 0) = em := ⟨_, rfl⟩
        have HEMP := Lib.hid hem
        rw [hem] at u4
        clear hcut hs6 hg6 hem
        go_wp2_with (at_builtin; refine wpList_append (k + 1) (As.flatMap anc ++ anc ⟨xi, xe, xp, na, em⟩) rfl _ _ _ _ rfl slAn rfl (HOW.out.1.keep (S := fun _ => False) (by repeat (first | exact Only.refl _ _ | apply Only.alloc | apply Only.drew)) (fun _ _ => id)) rfl (Src.row (size := 5) (cs := #[.bool xi, .int .i64 xe, .int .i64 xp, .int .i64 (na : Int), .bool em]) (t := 35) (fr := (0, 0)) Try.underlying24 (by exact heap_alloc_new _ _) 1 1 rfl (by simp [Value.oneCell'])) rfl rfl (by unfold maxLen; omega) (by omega) ?_)
        intro oa2 oc2 w8 hG
        have hfull : full ⟨xi, xe, xp, 0, false⟩ (tag X2) = ⟨xi, xe, xp, na, em⟩ := by
          unfold full
          rw [← HCN.out, HEMP.out]
        have HI2 := Lib.hid (HI.out.step HSK.out HOK.out.1 HS2.out HX.out.1 HX.out.2.1 HX.out.2.2.1 HX.out.2.2.2 (HS36.out.alloc _) (by rw [hfull]; exact hG))
        clear hG HX HOW hfull
        go_wp2_with fail
        go_roundw
        case rel => exact ⟨k + 1, hb2, ea2, ec2, X2, A2, pr2, oa2, oc2, _, rfl, by go_num, by omega, HI2⟩
        case measure => simp [intOf]; omega
    · have hlt' : ¬ (k : Int) < (n : Int) := by omega
      obtain rfl : k = n := by omega
      go_wp2_with fail
      go_ret
      have hi := HI.out
      have hr := hi.ran
      rw [List.take_of_length_le (by rw [HR.out.2]; exact Nat.le_refl _)] at hr
      exact ⟨oa, oc, As, tag X, rfl, hi.out.rs, fun j hj => hi.new j (.inr hj), hr, hi.same⟩
end Go.Proofs.Ytpddddjfjmipfaa.fh

/-
  Maps whose keys are ints behind an interface type: the laws at the operations of a walk; ranging over them.
-/
import Derived.Test.YtpddddjfjmipfaaDoorMapI
import Derived.Maps.RangeWalk
namespace Go.Proofs.YtpddddjfjmipfaaDoor.mapi
open Go.RowKit Go.ChangeMaps

section
variable {P : Program} {K d : TypeId} {w : World} {b : Nat} {l : List (Int × Value)} {ops : Array Oper} {rest : List Oper} {o : Oper} {a : Act} {Q : Exit → Act → World → Prop}

theorem wpList_lookupI (hg : o.guard = none) (m x : Operand) (t : TypeId) (c : Bool) (hop : o.op = Op.lookup t m x c) {e : TypeId} {z : Value} (hK : IKey P K d) (ht : P.underlying t = some (.map K e)) (hz : (zeroValue e).run P w = .ok z w)
    (hm : a.eval m = .map (some b)) (n : Int) (hx : a.eval x = ik d n) (h : MapIs d w b l) (V : Value) (hV : (if c then .tuple #[(get n l).getD z, .bool (get n l).isSome] else (get n l).getD z) = V)
    (hk : wpList P ops Q rest (a.put o.dst V) w) : wpList P ops Q (o :: rest) a w := by
  subst hV
  refine wpList_plain hg fun K' hK' => ?_
  unfold Oper.wp
  have := h.look hK ht hz n c
  simp only [execOp, hop, hm, hx, Sem.run_bind, this, Result.andThen]
  exact hK' _ _ hk

theorem wpList_updateI (hg : o.guard = none) (m x v : Operand) (t : TypeId) (hop : o.op = Op.mapUpdate t m x v) {e : TypeId} (hK : IKey P K d) (ht : P.underlying t = some (.map K e))
    (hm : a.eval m = .map (some b)) (n : Int) (hx : a.eval x = ik d n) (val : Value) (hv : a.eval v = val) (h : MapIs d w b l)
    (hk : ∀ w', MapIs d w' b (put n val l) → w.grownBy w' (some b) → w'.heap.size = w.heap.size → wpList P ops Q rest (a.put o.dst undef) w') : wpList P ops Q (o :: rest) a w := by
  refine wpList_plain hg fun K' hK' => ?_
  obtain ⟨w', hrun, r1, r2, r3⟩ := h.update' hK ht n val
  unfold Oper.wp
  simp [execOp, hop, hm, hx, hv, hrun, Result.andThen]
  exact hK' _ _ (hk w' r1 r2 r3)

theorem wpList_deleteI (hg : o.guard = none) (m x : Operand) (t k : TypeId) (hop : o.op = Op.call { callee := Callee.builtin Builtin.delete, args := #[m, x], argTypes := #[t, k] }) {e : TypeId} (hK : IKey P K d) (ht : P.underlying t = some (.map K e))
    (hm : a.eval m = .map (some b)) (n : Int) (hx : a.eval x = ik d n) (h : MapIs d w b l)
    (hk : ∀ w', MapIs d w' b (del n l) → w.grownBy w' (some b) → w'.heap.size = w.heap.size → wpList P ops Q rest (a.put o.dst (.tuple #[])) w') : wpList P ops Q (o :: rest) a w := by
  refine wpList_plain hg fun K' hK' => ?_
  obtain ⟨w', hrun, r1, r2, r3⟩ := h.drop' (ty := o.type) (kt := k) hK ht n
  unfold Oper.wp
  simp [execOp, hop, resolve, invoke, builtin, hm, hx, hrun, Result.andThen]
  exact hK' _ _ (hk w' r1 r2 r3)

theorem wpList_lenI (hg : o.guard = none) (m : Operand) (t : TypeId) (hop : o.op = Op.call { callee := Callee.builtin Builtin.len, args := #[m], argTypes := #[t] }) {e : TypeId} (ht : P.underlying t = some (.map K e))
    (hm : a.eval m = .map (some b)) (h : MapIs d w b l) (n : Nat) (hn : l.length = n)
    (hk : wpList P ops Q rest (a.put o.dst (.int .i64 (n : Int))) w) : wpList P ops Q (o :: rest) a w := by
  subst hn
  refine wpList_plain hg fun K' hK' => ?_
  unfold Oper.wp
  simp [execOp, hop, resolve, invoke, builtin, hm, h.len ht, Result.andThen]
  exact hK' _ _ hk

/-- block r ranges over the map in block b, whose pairs are l; the keys still to come: left -/
def RangeI (d : TypeId) (w : World) (b r : Nat) (l : List (Int × Value)) (left : List Int) : Prop :=
  ∃ es clock since seen c0, w.heap[b]? = some (.map es clock) ∧ MapKept.Stamped es clock ∧ Ents d es.toList l ∧ w.heap[r]? = some (.mapIter (some b) since seen c0) ∧ (∀ x ∈ es.toList, x.born < since) ∧ since ≤ c0 ∧ since ≤ clock ∧
    (leftOf es seen).toList.map (·.key) = left.map (ik d)
variable {r : Nat} {left : List Int}
theorem RangeI.map (h : RangeI d w b r l left) : MapIs d w b l := by
  obtain ⟨es, clock, since, seen, c0, h1, h2, h3, _⟩ := h
  exact ⟨es, clock, h1, h2, h3⟩
theorem RangeI.left_eq (h : RangeI d w b r l left) : w.rangeLeft b r = left.length := by
  obtain ⟨es, clock, since, seen, c0, h1, h2, h3, h4, _, _, _, h5⟩ := h
  simp only [World.rangeLeft, h1, h4]
  have := congrArg List.length h5
  simpa using this
theorem RangeI.ne (h : RangeI d w b r l left) : r ≠ b := by
  obtain ⟨es, clock, since, seen, c0, h1, h2, h3, h4, _⟩ := h
  intro e
  rw [e, h1] at h4
  cases h4
theorem RangeI.lt (h : RangeI d w b r l left) : r < w.heap.size := by
  obtain ⟨es, clock, since, seen, c0, _, _, _, h4, _⟩ := h
  exact (Array.getElem?_eq_some_iff.1 h4).1
theorem RangeI.of_heap {w' : World} (h : RangeI d w b r l left) (hb : w'.heap[b]? = w.heap[b]?) (hr : w'.heap[r]? = w.heap[r]?) : RangeI d w' b r l left := by
  obtain ⟨es, clock, since, seen, c0, h1, h2, h3, h4, h5⟩ := h
  exact ⟨es, clock, since, seen, c0, by rw [hb]; exact h1, h2, h3, by rw [hr]; exact h4, h5⟩

theorem heap_sb_other {w : World} {r i : Nat} (o : Obj) (h : i ≠ r) : (setBlock w r o).heap[i]? = w.heap[i]? := by
  simp [setBlock, Ne.symm h]
theorem heap_sb_same {w : World} {r : Nat} {o' : Obj} (h : w.heap[r]? = some o') (o : Obj) : (setBlock w r o).heap[r]? = some o := by
  have : r < w.heap.size := (Array.getElem?_eq_some_iff.1 h).1
  simp [setBlock, this]
theorem map_inj_ik {l1 l2 : List Int} (h : l1.map (ik d) = l2.map (ik d)) : l1 = l2 := by
  induction l1 generalizing l2 with
  | nil => cases l2 with
    | nil => rfl
    | cons => simp at h
  | cons x l1 ih =>
    cases l2 with
    | nil => simp at h
    | cons y l2 =>
      simp only [List.map_cons, List.cons.injEq] at h
      rw [ik_inj h.1, ih h.2]

theorem wpList_rangeI (hg : o.guard = none) (m : Operand) (t : TypeId) (hop : o.op = Op.range t m) {e : TypeId} (ht : P.underlying t = some (.map K e)) (hm : a.eval m = .map (some b)) (h : MapIs d w b l)
    (hk : ∀ w', RangeI d w' b w.heap.size l (l.map (·.1)) → w.grownBy w' none → w'.heap.size = w.heap.size + 1 → wpList P ops Q rest (a.put o.dst (.pointer (some ⟨w.heap.size, 0, none⟩))) w') : wpList P ops Q (o :: rest) a w := by
  have hlt := h.lt
  obtain ⟨es, clock, hb, hs, he⟩ := h
  have hrun := run_range_map (P := P) w t K e b es clock ht hb
  refine wpList_plain hg fun K' hK' => ?_
  unfold Oper.wp
  simp [execOp, hop, hm, hrun, Result.andThen]
  refine hK' _ _ (hk _ ⟨es, clock, clock, #[], clock, ((MapKept.heap_alloc w _).2 b hlt).trans hb, hs, he, (MapKept.heap_alloc w _).1, hs.1, Nat.le_refl _, Nat.le_refl _, ?_⟩ (World.grownBy_alloc w _ none) (by simp))
  rw [show (leftOf es #[]).toList = es.toList by simp [leftOf], he.keys]
  simp

theorem filter_key {es : List MapEntry} {e : MapEntry} (hn : es.Pairwise (fun x y => x.key ≠ y.key)) (he : e ∈ es) (hb : ∀ x ∈ es, ∀ y ∈ es, x.born = y.born → x = y) (x : Int) (hx : e.key = ik d x) {ks : List Int} (hk : es.map (·.key) = ks.map (ik d)) :
    (es.filter (fun y => !(y.born == e.born))).map (·.key) = (ks.filter (fun k => !(k == x))).map (ik d) := by
  induction es generalizing ks with
  | nil =>
    have : ks = [] := by simpa using hk.symm
    subst this; rfl
  | cons y es ih =>
    cases ks with
    | nil => simp at hk
    | cons k ks =>
      simp only [List.map_cons, List.cons.injEq] at hk
      obtain ⟨h1, h2⟩ := List.pairwise_cons.1 hn
      have hkx : (k == x) = (y.born == e.born) := by
        by_cases hbe : y.born = e.born
        · have := hb y (List.mem_cons_self ..) e he hbe
          subst this
          have : k = x := ik_inj (d := d) (by rw [← hk.1, hx])
          simp [this]
        · have : k ≠ x := by
            intro hc
            subst hc
            have hne : y ≠ e := fun hc => hbe (by rw [hc])
            rcases List.mem_cons.1 he with h | h
            · exact hne h.symm
            · exact h1 e h (by rw [hk.1, hx])
          rw [beq_eq_false_iff_ne.2 this, beq_eq_false_iff_ne.2 hbe]
      have hrec : (es.filter (fun y => !(y.born == e.born))).map (·.key) = (ks.filter (fun k => !(k == x))).map (ik d) := by
        by_cases hm : e ∈ es
        · exact ih h2 hm (fun u hu v hv => hb u (List.mem_cons_of_mem _ hu) v (List.mem_cons_of_mem _ hv)) hk.2
        · have hey : e = y := by
            rcases List.mem_cons.1 he with h | h
            · exact h
            · exact absurd h hm
          have e1 : es.filter (fun y => !(y.born == e.born)) = es := by
            rw [List.filter_eq_self]
            intro u hu
            have : u.born ≠ e.born := fun hc => hm (by rw [← hb u (List.mem_cons_of_mem _ hu) e he hc]; exact hu)
            simp [this]
          have e2 : ks.filter (fun k => !(k == x)) = ks := by
            rw [List.filter_eq_self]
            intro k' hk'
            have : ik d k' ∈ es.map (·.key) := by rw [hk.2]; exact List.mem_map_of_mem hk'
            obtain ⟨u, hu, huk⟩ := List.mem_map.1 this
            have : k' ≠ x := fun hc => by
              subst hc
              exact h1 u hu (by rw [huk, ← hx, hey])
            simp [this]
          rw [e1, e2, hk.2]
      simp only [List.filter_cons, hkx]
      cases y.born == e.born
      · simp only [Bool.not_false, if_true, List.map_cons]; rw [hrec, hk.1]
      · simp only [Bool.not_true, Bool.false_eq_true, if_false]; exact hrec

theorem wpList_nextI (hg : o.guard = none) (it : Operand) (hop : o.op = Op.next it false) (hit : a.eval it = .pointer (some ⟨r, 0, none⟩)) (h : RangeI d w b r l left)
    (hDone : left = [] → wpList P ops Q rest (a.put o.dst (.tuple #[.bool false])) w)
    (hMore : ∀ (x : Int) (v : Value) (w' : World), x ∈ left → (x, v) ∈ l → RangeI d w' b r l (left.filter (fun k => !(k == x))) → w.grownBy w' (some r) → w'.heap.size = w.heap.size →
      (Instr.entry (.pointer (some ⟨r, 0, none⟩))).run P w' = .ok (.tuple #[.iface d (.int .i64 x), v]) w' → wpList P ops Q rest (a.put o.dst (.tuple #[.bool true, .iface d (.int .i64 x), v])) w') : wpList P ops Q (o :: rest) a w := by
  have hrl := h.lt
  obtain ⟨es, clock, since, seen, c0, hb, hs, he, hr, hold, hsc, hscl, hk⟩ := h
  refine wpList_plain hg fun K' hK' => ?_
  unfold Oper.wp
  rcases run_next_at (P := P) w o.type r b since c0 seen es clock hr hb hold hsc with ⟨h0, hrun⟩ | ⟨e, hel, w1, hw1, hrun⟩
  · have hnil : left = [] := by
      have : (leftOf es seen).toList.length = 0 := by simpa using h0
      have h2 := congrArg List.length hk
      simp only [List.length_map] at h2
      exact List.eq_nil_of_length_eq_zero (by omega)
    simp [execOp, hop, hit, hrun, Result.andThen]
    exact hK' _ _ (hDone hnil)
  · have hst := (MapKept.stamped_iff es clock).1 hs
    have hme : e ∈ es.toList := (mem_left hel).1
    have hkm : e.key ∈ left.map (ik d) := by rw [← hk]; exact List.mem_map_of_mem hel
    obtain ⟨x, hx, hxe⟩ := List.mem_map.1 hkm
    have hpair : (x, e.val) ∈ l := by
      have : (e.key, e.val) ∈ l.map (fun p => (ik d p.1, p.2)) := by
        rw [← he]
        exact List.mem_map_of_mem (f := fun e => (e.key, e.val)) hme
      obtain ⟨p, hp, hpe⟩ := List.mem_map.1 this
      simp only [Prod.mk.injEq] at hpe
      have h1 : p.1 = x := ik_inj (d := d) (by rw [hpe.1, hxe])
      rw [← h1, ← hpe.2]
      exact hp
    have hw1h : w1.heap = w.heap := by rcases hw1 with rfl | rfl <;> rfl
    have hrb : r ≠ b := fun hc => by rw [hc, hb] at hr; cases hr
    have hr1 : w1.heap[r]? = some (.mapIter (some b) since seen c0) := by rw [hw1h]; exact hr
    have hb2 : (setBlock w1 r (.mapIter (some b) since (seen.push e.born) clock)).heap[b]? = some (.map es clock) := by
      rw [heap_sb_other _ (fun hc => hrb hc.symm), hw1h]; exact hb
    have hr2 : (setBlock w1 r (.mapIter (some b) since (seen.push e.born) clock)).heap[r]? = some (.mapIter (some b) since (seen.push e.born) clock) := heap_sb_same hr1 _
    have hen := run_entry_at (P := P) _ r b since seen es clock e hr2 hb2 hme hst.2.1
    have hinj : ∀ x ∈ es.toList, ∀ y ∈ es.toList, x.born = y.born → x = y := fun x hx y hy => born_inj hst.2.1 hx hy
    have hleft : (leftOf es (seen.push e.born)).toList.map (·.key) = (left.filter (fun k => !(k == x))).map (ik d) := by
      have e1 : (leftOf es (seen.push e.born)).toList = (leftOf es seen).toList.filter (fun y => !(y.born == e.born)) := by
        unfold leftOf
        simp only [Array.toList_filter, List.filter_filter]
        apply List.filter_congr
        intro y _
        rw [Array.contains_push]
        cases seen.contains y.born <;> cases y.born == e.born <;> rfl
      have hsub : (leftOf es seen).toList.Sublist es.toList := by unfold leftOf; rw [Array.toList_filter]; exact List.filter_sublist
      rw [e1]
      exact filter_key (hst.2.2.sublist hsub) hel (fun u hu v hv => hinj u (hsub.subset hu) v (hsub.subset hv)) x hxe.symm hk
    rw [← hxe] at hrun hen
    simp [execOp, hop, hit, hrun, Result.andThen]
    refine hK' _ _ (hMore x e.val _ hx hpair ⟨es, clock, since, seen.push e.born, clock, hb2, hs, he, hr2, hold, hscl, hscl, hleft⟩ ?_ (by simp [setBlock, hw1h]) hen)
    exact ⟨by rcases hw1 with rfl | rfl <;> rfl, by rcases hw1 with rfl | rfl <;> rfl, by rcases hw1 with rfl | rfl <;> rfl, by simp [setBlock, hw1h], fun i _ hi => by rw [heap_sb_other _ (fun e => hi (by rw [e])), hw1h]⟩

/-! sets: every value is the empty struct -/
def ul (ks : List Int) : List (Int × Value) := ks.map fun k => (k, .agg #[])
theorem ul_get (n : Int) (ks : List Int) : (get n (ul ks)).isSome = decide (n ∈ ks) := by
  by_cases h : n ∈ ks
  · rw [decide_eq_true h]
    cases hg : get n (ul ks) with
    | some v => rfl
    | none => exact absurd rfl (get_none.1 hg (n, .agg #[]) (List.mem_map_of_mem (f := fun k => (k, Value.agg #[])) h))
  · rw [decide_eq_false h]
    have : get n (ul ks) = none := get_none.2 fun p hp hc => by
      obtain ⟨k, hk, rfl⟩ := List.mem_map.1 hp
      exact h (hc ▸ hk)
    rw [this]; rfl
theorem ul_getD (n : Int) (ks : List Int) : (get n (ul ks)).getD (.agg #[]) = .agg #[] := by
  unfold get
  cases hf : findI n (ul ks) 0 with
  | none => rfl
  | some q =>
    obtain ⟨j, v⟩ := q
    have := (findI_some hf).2
    obtain ⟨k, _, hk⟩ := List.mem_map.1 (List.mem_of_getElem? this)
    simp only [Prod.mk.injEq] at hk
    exact hk.2.symm
theorem ul_put (n : Int) (ks : List Int) : put n (.agg #[]) (ul ks) = ul (if n ∈ ks then ks else ks ++ [n]) := by
  unfold put
  cases hf : findI n (ul ks) 0 with
  | none =>
    have h : n ∉ ks := fun h => findI_none.1 hf (n, .agg #[]) (List.mem_map_of_mem (f := fun k => (k, Value.agg #[])) h) rfl
    rw [if_neg h]
    simp [ul]
  | some q =>
    obtain ⟨j, v⟩ := q
    have h1 := (findI_some hf).2
    rw [Nat.sub_zero] at h1
    have hv : v = .agg #[] := by
      obtain ⟨k, _, hk⟩ := List.mem_map.1 (List.mem_of_getElem? h1)
      simp only [Prod.mk.injEq] at hk
      exact hk.2.symm
    subst hv
    have h : n ∈ ks := by
      obtain ⟨k, hk, he⟩ := List.mem_map.1 (List.mem_of_getElem? h1)
      simp only [Prod.mk.injEq] at he
      exact he.1 ▸ hk
    rw [if_pos h]
    apply List.ext_getElem?
    intro i
    rw [List.getElem?_set]
    by_cases hij : j = i
    · subst hij
      rw [if_pos rfl, if_pos (List.getElem?_eq_some_iff.1 h1).1, h1]
    · rw [if_neg hij]
theorem ul_del (n : Int) (ks : List Int) : del n (ul ks) = ul (ks.erase n) := by
  have key : ∀ (ks : List Int) (i : Nat), (match findI n (ul ks) i with | some (j, _) => i ≤ j ∧ (ul ks).eraseIdx (j - i) = ul (ks.erase n) | none => ul ks = ul (ks.erase n)) := by
    intro ks
    induction ks with
    | nil => intro i; rfl
    | cons k ks ih =>
      intro i
      show (match (if n == k then some (i, .agg #[]) else findI n (ul ks) (i + 1)) with | some (j, _) => i ≤ j ∧ (ul (k :: ks)).eraseIdx (j - i) = ul ((k :: ks).erase n) | none => ul (k :: ks) = ul ((k :: ks).erase n))
      by_cases h : n = k
      · subst h
        simp [ul]
      · have h1 : (n == k) = false := by simp [h]
        have h2 : (k == n) = false := by simp [Ne.symm h]
        rw [h1, List.erase_cons, h2]
        simp only [Bool.false_eq_true, if_false]
        have := ih (i + 1)
        cases hf : findI n (ul ks) (i + 1) with
        | none => rw [hf] at this; exact congrArg (fun z => (k, Value.agg #[]) :: z) this
        | some q =>
          obtain ⟨j, v⟩ := q
          rw [hf] at this
          obtain ⟨h3, h4⟩ := this
          refine ⟨by omega, ?_⟩
          rw [show j - i = (j - (i + 1)) + 1 by omega]
          exact congrArg (fun z => (k, Value.agg #[]) :: z) h4
  have := key ks 0
  unfold del
  cases hf : findI n (ul ks) 0 with
  | none => rw [hf] at this; exact this
  | some q =>
    obtain ⟨j, v⟩ := q
    rw [hf] at this
    exact this.2
theorem ul_keys (ks : List Int) : (ul ks).map (·.1) = ks := by
  rw [ul, List.map_map]
  exact List.map_id ks
theorem ul_len (ks : List Int) : (ul ks).length = ks.length := by simp [ul]
end
end Go.Proofs.YtpddddjfjmipfaaDoor.mapi

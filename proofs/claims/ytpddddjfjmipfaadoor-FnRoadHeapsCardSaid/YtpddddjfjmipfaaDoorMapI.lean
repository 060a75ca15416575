/-
  Maps whose keys are ints behind an interface type, as lists of pairs: look-up, store, delete, len. For any program.
-/
import Derived.WalkKit
namespace Go.Proofs.YtpddddjfjmipfaaDoor.mapi
open Go.RowKit Go.ChangeMaps

/-- a key: an int behind the interface type -/
def ik (d : TypeId) (n : Int) : Value := .iface d (.int .i64 n)
/-- K is an interface type, d the type int -/
structure IKey (P : Program) (K d : TypeId) : Prop where
  ifc : ∃ ms, P.underlying K = some (.interface ms)
  int : P.underlying d = some (.int .i64)
  cmp : ∃ i, P.info? d = some i ∧ i.comparable = true

section
variable {P : Program} {K d : TypeId}
theorem run_checkKey' (h : IKey P K d) (b : Bool) (n : Int) (m : Nat) (w : World) : (Instr.checkKey b (m + 1 + 1) K (ik d n)).run P w = .ok () w := by
  obtain ⟨ms, h1⟩ := h.ifc
  obtain ⟨i, h2, h3⟩ := h.cmp
  have h4 := h.int
  simp [Instr.checkKey, ik, run_underlying h1, run_underlying h4, typeInfo, h2, h3]
theorem run_checkKey (h : IKey P K d) (b : Bool) (n : Int) (w : World) : (Instr.checkKey b 10000 K (ik d n)).run P w = .ok () w := run_checkKey' h b n 9998 w
theorem run_equal' (h : IKey P K d) (n m : Int) (k : Nat) (w : World) : (Op.equalIn (k + 1 + 1) K (ik d n) (ik d m)).run P w = .ok (n == m) w := by
  obtain ⟨ms, h1⟩ := h.ifc
  obtain ⟨i, h2, h3⟩ := h.cmp
  have h4 := h.int
  simp [Op.equalIn, ik, run_underlying h1, run_underlying h4, typeInfo, h2, h3]
theorem run_equal (h : IKey P K d) (n m : Int) (w : World) : (Op.equal K (ik d n) (ik d m)).run P w = .ok (n == m) w := run_equal' h n m 9998 w

/-- the first pair with a key, and its place -/
def findI (n : Int) : List (Int × Value) → Nat → Option (Nat × Value)
  | [], _ => none
  | p :: r, i => if n == p.1 then some (i, p.2) else findI n r (i + 1)
/-- entries are pairs -/
def Ents (d : TypeId) (es : List MapEntry) (l : List (Int × Value)) : Prop := es.map (fun e => (e.key, e.val)) = l.map (fun p => (ik d p.1, p.2))
theorem Ents.cons {e : MapEntry} {es : List MapEntry} {l : List (Int × Value)} (h : Ents d (e :: es) l) : ∃ p r, l = p :: r ∧ e.key = ik d p.1 ∧ e.val = p.2 ∧ Ents d es r := by
  cases l with
  | nil => simp [Ents] at h
  | cons p r =>
    simp only [Ents, List.map_cons, List.cons.injEq, Prod.mk.injEq] at h
    exact ⟨p, r, rfl, h.1.1, h.1.2, h.2⟩
theorem run_findAsking (h : IKey P K d) (n : Int) (w : World) : ∀ (es : List MapEntry) (l : List (Int × Value)) (i : Nat), Ents d es l → (Instr.findAsking K (ik d n) es i).run P w = .ok (findI n l i) w := by
  intro es
  induction es with
  | nil =>
    intro l i he
    have : l = [] := by simpa [Ents] using he.symm
    subst this
    simp [Instr.findAsking, findI]
  | cons e es ih =>
    intro l i he
    obtain ⟨p, r, rfl, hk, hv, hr⟩ := he.cons
    have hq := run_equal h n p.1 w
    unfold Instr.findAsking findI
    rw [hk]
    cases hb : n == p.1
    · rw [hb] at hq
      simp [hq, Result.andThen, ih r (i + 1) hr]
    · rw [hb] at hq
      simp [hq, Result.andThen, hv]
theorem run_findKey (h : IKey P K d) (n : Int) (w : World) (es : List MapEntry) (l : List (Int × Value)) (he : Ents d es l) : (Instr.findKey K (ik d n) es).run P w = .ok (findI n l 0) w := by
  obtain ⟨ms, h1⟩ := h.ifc
  cases es with
  | nil =>
    have : l = [] := by simpa [Ents] using he.symm
    subst this
    simp [Instr.findKey, run_underlying h1, Instr.findNow, findI, Result.andThen]
  | cons e es =>
    have := run_findAsking h n w (e :: es) l 0 he
    simp [Instr.findKey, run_underlying h1, Instr.findNow, Instr.sameNow, ik, Result.andThen]
    exact this

theorem findI_none {n : Int} : ∀ {l : List (Int × Value)} {i : Nat}, findI n l i = none ↔ ∀ p ∈ l, p.1 ≠ n := by
  intro l
  induction l with
  | nil => intro i; simp [findI]
  | cons p r ih =>
    intro i
    unfold findI
    cases hb : n == p.1
    · have : p.1 ≠ n := fun e => by simp [e] at hb
      simp [ih, this]
    · have : p.1 = n := by simpa using (eq_of_beq hb).symm
      simp [this]
theorem findI_some {n : Int} {v : Value} : ∀ {l : List (Int × Value)} {i j : Nat}, findI n l i = some (j, v) → i ≤ j ∧ l[j - i]? = some (n, v) := by
  intro l
  induction l with
  | nil => intro i j h; simp [findI] at h
  | cons p r ih =>
    intro i j h
    unfold findI at h
    cases hb : n == p.1
    · rw [hb] at h
      simp at h
      obtain ⟨h1, h2⟩ := ih h
      refine ⟨by omega, ?_⟩
      rw [show j - i = (j - (i + 1)) + 1 from by omega]
      simpa using h2
    · rw [hb] at h
      simp at h
      obtain ⟨rfl, rfl⟩ := h
      have : p.1 = n := by simpa using (eq_of_beq hb).symm
      refine ⟨Nat.le_refl _, ?_⟩
      simp [← this]

/-- what stands under a key; the pairs behind a store; behind a deletion -/
def get (n : Int) (l : List (Int × Value)) : Option Value := (findI n l 0).map (·.2)
def put (n : Int) (v : Value) (l : List (Int × Value)) : List (Int × Value) := match findI n l 0 with | some (j, _) => l.set j (n, v) | none => l ++ [(n, v)]
def del (n : Int) (l : List (Int × Value)) : List (Int × Value) := match findI n l 0 with | some (j, _) => l.eraseIdx j | none => l

/-- block b is a map that holds the pairs l -/
def MapIs (d : TypeId) (w : World) (b : Nat) (l : List (Int × Value)) : Prop := ∃ es clock, w.heap[b]? = some (.map es clock) ∧ MapKept.Stamped es clock ∧ Ents d es.toList l
variable {w : World} {b : Nat} {l : List (Int × Value)}
theorem MapIs.made (d : TypeId) (w : World) : MapIs d (w.alloc (.map #[] 0)) w.heap.size [] := ⟨#[], 0, (MapKept.heap_alloc w _).1, MapKept.stamped_empty 0, rfl⟩
theorem MapIs.lt (h : MapIs d w b l) : b < w.heap.size := by
  obtain ⟨es, clock, hb, _⟩ := h
  exact (Array.getElem?_eq_some_iff.1 hb).1
theorem MapIs.of_heap {w' : World} (h : MapIs d w b l) (he : w'.heap[b]? = w.heap[b]?) : MapIs d w' b l := by
  obtain ⟨es, clock, hb, r⟩ := h
  exact ⟨es, clock, by rw [he]; exact hb, r⟩
theorem Ents.keys {es : List MapEntry} (h : Ents d es l) : es.map (·.key) = l.map (fun p => ik d p.1) := by
  have := congrArg (List.map Prod.fst) h
  simpa [List.map_map, Function.comp_def] using this
theorem Ents.vals {es : List MapEntry} (h : Ents d es l) : es.map (·.val) = l.map (·.2) := by
  have := congrArg (List.map Prod.snd) h
  simpa [List.map_map, Function.comp_def] using this
theorem Ents.length {es : List MapEntry} (h : Ents d es l) : es.length = l.length := by
  have := congrArg List.length h
  simpa using this
theorem ik_inj {n m : Int} (h : ik d n = ik d m) : n = m := by simpa [ik] using h
/-- the keys are different -/
theorem MapIs.nodup (h : MapIs d w b l) : (l.map Prod.fst).Nodup := by
  obtain ⟨es, clock, hb, hs, he⟩ := h
  have h3 := ((MapKept.stamped_iff es clock).1 hs).2.2
  have hk : (es.toList.map (·.key)).Nodup := by rw [List.nodup_iff_pairwise_ne, List.pairwise_map]; exact h3
  rw [he.keys, List.nodup_iff_pairwise_ne, List.pairwise_map] at hk
  rw [List.nodup_iff_pairwise_ne, List.pairwise_map]
  exact hk.imp (fun {a b} h e => h (by rw [e]))

theorem MapIs.look {t e : TypeId} {z : Value} (h : MapIs d w b l) (hK : IKey P K d) (ht : P.underlying t = some (.map K e)) (hz : (zeroValue e).run P w = .ok z w) (n : Int) (c : Bool) :
    (Instr.lookup t (.map (some b)) (ik d n) c).run P w = .ok (if c then .tuple #[(get n l).getD z, .bool (get n l).isSome] else (get n l).getD z) w := by
  obtain ⟨es, clock, hb, hs, he⟩ := h
  have h1 := run_checkKey hK es.isEmpty n w
  have h2 := run_findKey hK n w es.toList l he
  unfold get
  cases hf : findI n l 0 with
  | none =>
    rw [hf] at h2
    cases c <;> simp [Instr.lookup, run_underlying ht, MapKept.run_getObj_map hb, h1, h2, hz, Result.andThen]
  | some q =>
    obtain ⟨j, v⟩ := q
    rw [hf] at h2
    cases c <;> simp [Instr.lookup, run_underlying ht, MapKept.run_getObj_map hb, h1, h2, Result.andThen]
theorem run_stays (n : Int) (w : World) : (Instr.keyThatStays (ik d n) (ik d n)).run P w = .ok (ik d n) w := by
  have : ∀ m, Instr.sameBits (m + 1 + 1) (ik d n) (ik d n) = true := fun m => by simp [Instr.sameBits, ik]
  have h := this 9998
  unfold Instr.keyThatStays
  rw [show (10000 : Nat) = 9998 + 1 + 1 from rfl, h]
  simp
theorem get_none {n : Int} : get n l = none ↔ ∀ p ∈ l, p.1 ≠ n := by
  unfold get
  rw [Option.map_eq_none_iff]
  exact findI_none

theorem MapIs.len {t ty e : TypeId} (h : MapIs d w b l) (ht : P.underlying t = some (.map K e)) : (Builtin.len_ #[t] ty #[.map (some b)]).run P w = .ok (goInt l.length) w := by
  obtain ⟨es, clock, hb, hs, he⟩ := h
  have hl := he.length
  simp at hl
  simp [Builtin.len_, run_underlying ht, MapKept.run_getObj_map hb, Result.andThen, hl]

theorem MapIs.update' {t e : TypeId} (h : MapIs d w b l) (hK : IKey P K d) (ht : P.underlying t = some (.map K e)) (n : Int) (v : Value) :
    ∃ w', (Instr.mapUpdate t (.map (some b)) (ik d n) v).run P w = .ok () w' ∧ MapIs d w' b (put n v l) ∧ w.grownBy w' (some b) ∧ w'.heap.size = w.heap.size := by
  obtain ⟨es, clock, hb, hs, he⟩ := h
  have h1 := run_checkKey hK false n w
  have h2 := run_findKey hK n w es.toList l he
  have hgr : ∀ es' clock', w.grownBy (setBlock w b (.map es' clock')) (some b) := fun es' clock' =>
    ⟨rfl, rfl, rfl, by simp [setBlock], fun i _ hi => ChangeMaps.heap_setBlock_other hb _ (fun e => hi (by rw [e]))⟩
  unfold put
  cases hf : findI n l 0 with
  | none =>
    rw [hf] at h2
    refine ⟨setBlock w b (.map (es.push { key := ik d n, val := v, born := clock }) (clock + 1)), ?_, ⟨_, _, ChangeMaps.heap_setBlock_same hb _, MapKept.stamped_push hs (fun x hx hxe => ?_), ?_⟩, hgr _ _, by simp [setBlock]⟩
    · simp [Instr.mapUpdate, run_underlying ht, MapKept.run_getObj_map hb, h1, h2, MapKept.run_setObj_map _ hb, Result.andThen, setBlock]
    · have hm : ik d n ∈ es.toList.map (·.key) := List.mem_map.2 ⟨x, hx, hxe⟩
      rw [he.keys] at hm
      obtain ⟨p, hp, hpe⟩ := List.mem_map.1 hm
      exact findI_none.1 hf p hp (ik_inj hpe)
    · unfold Ents at *
      simp [he]
  | some q =>
    obtain ⟨j, v0⟩ := q
    rw [hf] at h2
    obtain ⟨_, hj⟩ := findI_some hf
    rw [Nat.sub_zero] at hj
    have hjl : j < l.length := (List.getElem?_eq_some_iff.1 hj).1
    have hjs : j < es.size := by have := he.length; simp at this; omega
    have hjk : es[j].key = ik d n := by
      have h3 := congrArg (fun x : List Value => x[j]?) he.keys
      simp only [List.getElem?_map, hj, Option.map_some] at h3
      rw [Array.getElem?_toList, Array.getElem?_eq_getElem hjs] at h3
      simpa using h3
    have hst := run_stays (P := P) (d := d) n w
    refine ⟨setBlock w b (.map (es.modify j fun e => { e with key := ik d n, val := v }) clock), ?_, ⟨_, _, ChangeMaps.heap_setBlock_same hb _, MapKept.stamped_modify hs j _ (fun _ _ => rfl) (fun e' he' hje => ?_), ?_⟩, hgr _ _, by simp [setBlock]⟩
    · simp [Instr.mapUpdate, run_underlying ht, MapKept.run_getObj_map hb, h1, h2, hjs, hjk, hst, MapKept.run_setObj_map _ hb, Result.andThen, setBlock]
    · rw [Array.getElem?_eq_getElem hjs] at hje
      cases hje
      exact hjk.symm
    · unfold Ents at *
      apply List.ext_getElem?
      intro i
      have h4 := congrArg (fun x : List (Value × Value) => x[i]?) he
      simp only [List.getElem?_map, Array.getElem?_toList] at h4
      simp only [List.getElem?_map, Array.getElem?_toList, Array.getElem?_modify, List.getElem?_set]
      by_cases hij : j = i
      · subst hij
        rw [if_pos rfl, if_pos rfl, if_pos hjl, Array.getElem?_eq_getElem hjs]
        rfl
      · rw [if_neg hij, if_neg hij]; exact h4

theorem MapIs.drop' {t e ty kt : TypeId} (h : MapIs d w b l) (hK : IKey P K d) (ht : P.underlying t = some (.map K e)) (n : Int) :
    ∃ w', (Builtin.delete_ #[t, kt] ty #[.map (some b), ik d n]).run P w = .ok (.tuple #[]) w' ∧ MapIs d w' b (del n l) ∧ w.grownBy w' (some b) ∧ w'.heap.size = w.heap.size := by
  obtain ⟨es, clock, hb, hs, he⟩ := h
  have h1 := run_checkKey hK es.isEmpty n w
  have h2 := run_findKey hK n w es.toList l he
  have hgr : ∀ es' clock', w.grownBy (setBlock w b (.map es' clock')) (some b) := fun es' clock' =>
    ⟨rfl, rfl, rfl, by simp [setBlock], fun i _ hi => ChangeMaps.heap_setBlock_other hb _ (fun e => hi (by rw [e]))⟩
  unfold del
  cases hf : findI n l 0 with
  | none =>
    rw [hf] at h2
    refine ⟨setBlock w b (.map es clock), ?_, ⟨_, _, ChangeMaps.heap_setBlock_same hb _, hs, he⟩, hgr _ _, by simp [setBlock]⟩
    simp [Builtin.delete_, run_underlying ht, MapKept.run_getObj_map hb, h1, h2, MapKept.run_setObj_map _ hb, Result.andThen, setBlock]
  | some q =>
    obtain ⟨j, v0⟩ := q
    rw [hf] at h2
    refine ⟨setBlock w b (.map (es.eraseIdxIfInBounds j) clock), ?_, ⟨_, _, ChangeMaps.heap_setBlock_same hb _, MapKept.stamped_erase hs j, ?_⟩, hgr _ _, by simp [setBlock]⟩
    · simp [Builtin.delete_, run_underlying ht, MapKept.run_getObj_map hb, h1, h2, MapKept.run_setObj_map _ hb, Result.andThen, setBlock]
    · unfold Ents at *
      have e1 : (es.eraseIdxIfInBounds j).toList = es.toList.eraseIdx j := by
        unfold Array.eraseIdxIfInBounds
        split
        · exact Array.toList_eraseIdx ..
        · rw [List.eraseIdx_of_length_le (by simp; omega)]
      rw [e1, map_eraseIdx, map_eraseIdx, he]
end
end Go.Proofs.YtpddddjfjmipfaaDoor.mapi

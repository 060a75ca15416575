/-
  Two variables of type Bits that a law makes in one statement: the opening of the laws on two bitsets.
-/
import Derived.Test.YthnfoiaemeklnaaBsImplEq
import Derived.Deep.DeepCutAuto
namespace Go.Proofs.Ythnfoiaemeklnaa.bs
open Go.RowKit Go.Proofs.Ythnfoiaemeklnaa.base Go.Proofs.Ythnfoiaemeklnaa.heap Go.Proofs.Ythnfoiaemeklnaa.bit
set_option linter.unusedVariables false

theorem lt_two {x y : Nat} (h : x + 2 ≤ y) : x < y ∧ x + 1 < y ∧ x ≠ y ∧ y ≠ x ∧ x + 1 ≠ y ∧ y ≠ x + 1 := by omega
theorem lt_one {x y : Nat} (h : x + 1 ≤ y) : x < y ∧ x ≠ y ∧ y ≠ x ∧ x ≠ y + 1 ∧ y + 1 ≠ x := by omega
/-- what was there reads as before -/
theorem kept {w w' : World} (h : Same w w') : (∀ b o, b < w.heap.size → w'.cell? ⟨b, o, none⟩ = w.cell? ⟨b, o, none⟩) ∧ (∀ b o, b < w.heap.size → w'.frozen? ⟨b, o, none⟩ = w.frozen? ⟨b, o, none⟩) :=
  ⟨fun b o hb => h.cell (p := ⟨b, o, none⟩) hb id, fun b o hb => h.frozen (p := ⟨b, o, none⟩) hb id⟩

/-- a variable of type Bits, cell by cell -/
structure VarB (w : World) (k : Nat) (b : List Bool) (a : Option Addr) (m cap : Nat) : Prop where
  lt : k < w.heap.size
  c0 : w.cell? ⟨k, 0, none⟩ = some (.int .u64 (b.length : Int))
  c1 : w.cell? ⟨k, 1, none⟩ = some (.slice a m cap)
  f0 : w.frozen? ⟨k, 0, none⟩ = false
  f1 : w.frozen? ⟨k, 1, none⟩ = false
theorem VarB.keep {w w' : World} {k : Nat} {b : List Bool} {a : Option Addr} {m cap : Nat} (h : VarB w k b a m cap) (ho : Same w w') : VarB w' k b a m cap := by
  obtain ⟨hc, hf⟩ := kept ho
  exact ⟨Nat.lt_of_lt_of_le h.lt ho.size, (hc _ _ h.lt).trans h.c0, (hc _ _ h.lt).trans h.c1, (hf _ _ h.lt).trans h.f0, (hf _ _ h.lt).trans h.f1⟩

/-- two bitsets as plain data, in two variables of the call's own -/
structure Two (W : World) (k k' : Nat) (b b' : List Bool) (a a' : Option Addr) (m cap m' cap' : Nat) (wx : World) : Prop where
  ne : k ≠ k'
  le : b.length ≤ 400 ∧ b'.length ≤ 400
  one : VarB wx k b a m cap
  two : VarB wx k' b' a' m' cap'
  ru : RU wx a m cap (ones b)
  ru' : RU wx a' m' cap' (ones b')
  far : ∀ j, At a j ∨ At a' j → j ≠ k ∧ j ≠ k'
  same : Same W wx
  new : W.heap.size ≤ k ∧ W.heap.size ≤ k'
def TwoV (W : World) (s s' : Value) (wx : World) : Prop := ∃ k k' b b' a a' m cap m' cap', s = .pointer (some ⟨k, 0, none⟩) ∧ s' = .pointer (some ⟨k', 0, none⟩) ∧ Two W k k' b b' a a' m cap m' cap' wx

/-- some Bits of at most 400 bits, in blocks of their own -/
def FSome2 (w0 : World) (e : Ending) (w' : World) : Prop := ∃ (b : List Bool) (a : Option Addr) (m cap : Nat), b.length ≤ 400 ∧ e = .returned (.agg #[.int .u64 (b.length : Int), .slice a m cap]) ∧ RU w' a m cap (ones b) ∧ Same w0 w' ∧ ∀ j, At a j → w0.heap.size ≤ j ∧ j < w'.heap.size
theorem fsome2 {n : Nat} {a : Option Addr} {m cap : Nat} {zs : List Int} {w : World} (hr : IsRow .u64 w a m cap zs) (hm : m ≤ 2147483647) : Calls Try.prog 12 #[.agg #[.int .u64 (n : Int), .slice a m cap]] w (FSome2 w) :=
  (bsBits n a m cap zs w hr hm).mono fun e w' ⟨b, hb, a', m', cap', he, hu, hO, hf⟩ => ⟨b, a', m', cap', by omega, he, hu, hO, fun j hj => hf j hj⟩
/-- both variables are written: what holds of them -/
theorem Two.mk' {W w3 wx : World} {k k' : Nat} {b b' : List Bool} {a a' : Option Addr} {m cap m' cap' : Nat} (ne : k ≠ k') (l1 : b.length ≤ 400) (l2 : b'.length ≤ 400) (lt : k < wx.heap.size) (lt' : k' < wx.heap.size)
    (c0 : wx.cell? ⟨k, 0, none⟩ = some (.int .u64 (b.length : Int)) ∧ wx.cell? ⟨k, 1, none⟩ = some (.slice a m cap) ∧ wx.cell? ⟨k', 0, none⟩ = some (.int .u64 (b'.length : Int)) ∧ wx.cell? ⟨k', 1, none⟩ = some (.slice a' m' cap'))
    (f0 : wx.frozen? ⟨k, 0, none⟩ = false ∧ wx.frozen? ⟨k, 1, none⟩ = false ∧ wx.frozen? ⟨k', 0, none⟩ = false ∧ wx.frozen? ⟨k', 1, none⟩ = false)
    (hu : RU w3 a m cap (ones b)) {w4 : World} (hu' : RU w4 a' m' cap' (ones b')) (far : ∀ j, At a j ∨ At a' j → j ≠ k ∧ j ≠ k')
    (hO3 : Only (fun j => j = k ∨ j = k') w3 wx) (hO4 : Only (fun j => j = k ∨ j = k') w4 wx) (hs : Same W wx) (n1 : W.heap.size ≤ k) (n2 : W.heap.size ≤ k') : Two W k k' b b' a a' m cap m' cap' wx :=
  ⟨ne, ⟨l1, l2⟩, ⟨lt, c0.1, c0.2.1, f0.1, f0.2.1⟩, ⟨lt', c0.2.2.1, c0.2.2.2, f0.2.2.1, f0.2.2.2⟩, hu.keep hO3 (fun j hj h => by have := far j (.inl hj); omega), hu'.keep hO4 (fun j hj h => by have := far j (.inr hj); omega), far, hs, n1, n2⟩

/-- both variables are written -/
theorem put4 {V : World} {k k' : Nat} {x0 x1 y0 y1 v0 v1 u0 u1 : Value} {t : TypeId} (h : V.heap[k]? = some (.cells #[x0, x1] t (0, 0))) (h' : V.heap[k']? = some (.cells #[y0, y1] t (0, 0))) (ne : k ≠ k') :
    ((((V.setCell ⟨k, 0, none⟩ v0).setCell ⟨k, 1, none⟩ v1).setCell ⟨k', 0, none⟩ u0).setCell ⟨k', 1, none⟩ u1).heap[k]? = some (.cells #[v0, v1] t (0, 0)) ∧
    ((((V.setCell ⟨k, 0, none⟩ v0).setCell ⟨k, 1, none⟩ v1).setCell ⟨k', 0, none⟩ u0).setCell ⟨k', 1, none⟩ u1).heap[k']? = some (.cells #[u0, u1] t (0, 0)) := by
  have h1 : ((V.setCell ⟨k, 0, none⟩ v0).setCell ⟨k, 1, none⟩ v1).heap[k]? = some (.cells #[v0, v1] t (0, 0)) := setCell_heap (setCell_heap h 0 _) 1 _
  have h2 : ((V.setCell ⟨k, 0, none⟩ v0).setCell ⟨k, 1, none⟩ v1).heap[k']? = some (.cells #[y0, y1] t (0, 0)) := by
    rw [Below.heap_setCell _ _ _ _ (Ne.symm ne), Below.heap_setCell _ _ _ _ (Ne.symm ne)]; exact h'
  exact ⟨by rw [Below.heap_setCell _ _ _ _ ne, Below.heap_setCell _ _ _ _ ne]; exact h1, setCell_heap (setCell_heap h2 0 _) 1 _⟩
theorem Two.mk2 {W w3 wx : World} {k k' : Nat} {b b' : List Bool} {a a' : Option Addr} {m cap m' cap' : Nat} (ne : k ≠ k') (l1 : b.length ≤ 400) (l2 : b'.length ≤ 400)
    (h : wx.heap[k]? = some (.cells #[.int .u64 (b.length : Int), .slice a m cap] 25 (0, 0)) ∧ wx.heap[k']? = some (.cells #[.int .u64 (b'.length : Int), .slice a' m' cap'] 25 (0, 0)))
    (hu : RU w3 a m cap (ones b)) {w4 : World} (hu' : RU w4 a' m' cap' (ones b')) (far : ∀ j, At a j ∨ At a' j → j ≠ k ∧ j ≠ k')
    (hO3 : Only (fun j => j = k ∨ j = k') w3 wx) (hO4 : Only (fun j => j = k ∨ j = k') w4 wx) (hs : Same W wx) (n1 : W.heap.size ≤ k) (n2 : W.heap.size ≤ k') : Two W k k' b b' a a' m cap m' cap' wx :=
  Two.mk' ne l1 l2 (lt_of_heap h.1) (lt_of_heap h.2) ⟨block_cell h.1 rfl, block_cell h.1 rfl, block_cell h.2 rfl, block_cell h.2 rfl⟩ ⟨block_free h.1, block_free h.1, block_free h.2, block_free h.2⟩ hu hu' far hO3 hO4 hs n1 n2

theorem VarB.write {V : World} {k : Nat} {b b2 : List Bool} {a a2 : Option Addr} {m cap m2 cap2 : Nat} (h : VarB V k b a m cap) : VarB ((V.setCell ⟨k, 0, none⟩ (.int .u64 (b2.length : Int))).setCell ⟨k, 1, none⟩ (.slice a2 m2 cap2)) k b2 a2 m2 cap2 := by
  have e : (⟨k, 1, none⟩ : Addr) ≠ ⟨k, 0, none⟩ := by simp
  refine ⟨by simpa [World.setCell] using h.lt, ?_, ?_, by simpa using h.f0, by simpa using h.f1⟩
  · rw [World.cell?_setCell_other (h := e), World.cell?_setCell_same (h := h.c0)]
  · exact World.cell?_setCell_same (v := .slice a2 m2 cap2) (u := .slice a m cap) (h := by rw [World.cell?_setCell_other (h := e.symm)]; exact h.c1)
theorem VarB.far {V : World} {k j : Nat} {b : List Bool} {a : Option Addr} {m cap : Nat} (h : VarB V k b a m cap) (hne : k ≠ j) (x y : Value) : VarB ((V.setCell ⟨j, 0, none⟩ x).setCell ⟨j, 1, none⟩ y) k b a m cap := by
  have e : ∀ o o' : Nat, (⟨j, o, none⟩ : Addr) ≠ ⟨k, o', none⟩ := fun o o' h => hne (by injection h with h; exact h.symm)
  refine ⟨by simpa [World.setCell] using h.lt, ?_, ?_, by simpa using h.f0, by simpa using h.f1⟩
  · rw [World.cell?_setCell_other (h := e _ _), World.cell?_setCell_other (h := e _ _)]; exact h.c0
  · rw [World.cell?_setCell_other (h := e _ _), World.cell?_setCell_other (h := e _ _)]; exact h.c1
theorem onesTo_app (b : List Bool) (r : Nat) : ∀ k, k ≤ r → onesTo (b ++ List.replicate r false) (b.length + k) = onesTo b b.length := by
  intro k
  induction k with
  | zero =>
    intro _
    unfold onesTo
    apply List.filter_congr
    intro i hi
    have := List.mem_range.1 hi
    simp only [List.getD_eq_getElem?_getD]
    rw [List.getElem?_append_left (by omega)]
  | succ k ih =>
    intro hk
    rw [← Nat.add_assoc, onesTo_no _ _ (by
      simp only [List.getD_eq_getElem?_getD]
      rw [List.getElem?_append_right (by omega), List.getElem?_replicate]
      split <;> rfl)]
    exact ih (by omega)
theorem ones_app (b : List Bool) (r : Nat) : ones (b ++ List.replicate r false) = ones b := by
  have := onesTo_app b r r (Nat.le_refl _)
  unfold ones
  rwa [List.length_append, List.length_replicate]
/-- what the comparison of two variables wants -/
theorem fin_facts {V : World} {k k' : Nat} {b b2 : List Bool} {a a2 : Option Addr} {m cap m2 cap2 : Nat} (h1 : VarB V k b a m cap) (h2 : VarB V k' b2 a2 m2 cap2) (r1 : RU V a m cap (ones b)) (r2 : RU V a2 m2 cap2 (ones b2)) (l1 : b.length ≤ 400) (l2 : b2.length ≤ 1000) :
    (∀ wx, Same V wx → (wx.cell? ⟨k, 0, none⟩ = some (.int .u64 (b.length : Int)) ∧ wx.cell? ⟨k, 1, none⟩ = some (.slice a m cap)) ∧ (wx.cell? ⟨k', 0, none⟩ = some (.int .u64 (b2.length : Int)) ∧ wx.cell? ⟨k', 1, none⟩ = some (.slice a2 m2 cap2))) ∧
    (∀ w0 wx, Same V w0 → Same w0 wx → Calls Try.prog 13 #[.agg #[.int .u64 (b.length : Int), .slice a m cap], .agg #[.int .u64 (b2.length : Int), .slice a2 m2 cap2]] wx (FV w0 (.bool (decide (b = b2))))) ∧
    (∀ w0 wx, Same V w0 → Same w0 wx → Calls Try.prog 14 #[.agg #[.int .u64 (b.length : Int), .slice a m cap], .agg #[.int .u64 (b2.length : Int), .slice a2 m2 cap2]] wx (FV w0 (.bool (decide (b = b2))))) :=
  ⟨fun wx hx => ⟨⟨(h1.keep hx).c0, (h1.keep hx).c1⟩, ⟨(h2.keep hx).c0, (h2.keep hx).c1⟩⟩,
   fun w0 wx h0 hx => fv hx (implEqual _ _ b b2 wx (BV.mk (r1.keep (Same.trans h0 hx) (fun _ _ => id))) (BV.mk (r2.keep (Same.trans h0 hx) (fun _ _ => id))) (by omega) (by omega)),
   fun w0 wx h0 hx => fv hx (bsSame _ _ b b2 wx (BV.mk (r1.keep (Same.trans h0 hx) (fun _ _ => id))) (BV.mk (r2.keep (Same.trans h0 hx) (fun _ _ => id))) (by omega) (by omega))⟩

theorem only_put4 {S : Nat → Prop} {w V : World} {k k' : Nat} {v0 v1 u0 u1 : Value} (h : Only S w V) (hk : k < w.heap.size → S k) (hk' : k' < w.heap.size → S k') :
    Only S w ((((V.setCell ⟨k, 0, none⟩ v0).setCell ⟨k, 1, none⟩ v1).setCell ⟨k', 0, none⟩ u0).setCell ⟨k', 1, none⟩ u1) :=
  (((h.setCell _ _ hk).setCell _ _ hk).setCell _ _ hk').setCell _ _ hk'
theorem only_then {S : Nat → Prop} {w w' w'' : World} (h : Only S w w') (h' : Same w' w'') : Only S w w'' := Only.trans h h' (fun _ _ f => f.elim)
theorem obj_then {w w' : World} {b : Nat} {o : Obj} (h' : Same w w') (h : w.heap[b]? = some o) : w'.heap[b]? = some o := h'.obj h id
theorem obj_alloc {w : World} {b : Nat} {o x : Obj} (hb : b < w.heap.size) (h : w.heap[b]? = some o) : (w.alloc x).heap[b]? = some o := by rw [Below.heap_alloc _ _ _ hb]; exact h
theorem obj_drew {w : World} {b : Nat} {o : Obj} (h : w.heap[b]? = some o) : w.drew.heap[b]? = some o := h

/-- both variables are written, behind the calls: all that is asked of the world ahead of the stores -/
theorem Two.of4 {W w3 w4 V : World} {k k' : Nat} {b b' : List Bool} {a a' : Option Addr} {m cap m' cap' : Nat} {x0 x1 y0 y1 : Value} (hu : RU w3 a m cap (ones b)) (hu' : RU w4 a' m' cap' (ones b')) (l1 : b.length ≤ 400) (l2 : b'.length ≤ 400)
    (h3 : Same w3 V) (h4 : Same w4 V) (hs : Same W V) (o1 : V.heap[k]? = some (.cells #[x0, x1] 25 (0, 0))) (o2 : V.heap[k']? = some (.cells #[y0, y1] 25 (0, 0)))
    (ne : k ≠ k') (far : ∀ j, At a j ∨ At a' j → j ≠ k ∧ j ≠ k') (n1 : W.heap.size ≤ k) (n2 : W.heap.size ≤ k') :
    Two W k k' b b' a a' m cap m' cap' ((((V.setCell ⟨k, 0, none⟩ (.int .u64 (b.length : Int))).setCell ⟨k, 1, none⟩ (.slice a m cap)).setCell ⟨k', 0, none⟩ (.int .u64 (b'.length : Int))).setCell ⟨k', 1, none⟩ (.slice a' m' cap')) :=
  Two.mk2 ne l1 l2 (put4 o1 o2 ne) hu hu' far
    (only_put4 (S := fun j => j = k ∨ j = k') (h3.mono (fun _ _ f => f.elim)) (fun _ => .inl rfl) (fun _ => .inr rfl))
    (only_put4 (S := fun j => j = k ∨ j = k') (h4.mono (fun _ _ f => f.elim)) (fun _ => .inl rfl) (fun _ => .inr rfl))
    (only_put4 (S := fun _ => False) hs (fun h => by omega) (fun h => by omega)) n1 n2

theorem Two.symm {W wx : World} {k k' : Nat} {b b' : List Bool} {a a' : Option Addr} {m cap m' cap' : Nat} (h : Two W k k' b b' a a' m cap m' cap' wx) : Two W k' k b' b a' a m' cap' m cap wx :=
  ⟨Ne.symm h.ne, ⟨h.le.2, h.le.1⟩, h.two, h.one, h.ru', h.ru, fun j hj => ⟨(h.far j hj.symm).2, (h.far j hj.symm).1⟩, h.same, h.new.2, h.new.1⟩
/-- both variables made behind the calls -/
theorem Two.ofA {W wa wb V : World} {b b' : List Bool} {a a' : Option Addr} {m cap m' cap' : Nat} (hu : RU wa a m cap (ones b)) (hu' : RU wb a' m' cap' (ones b')) (l1 : b.length ≤ 400) (l2 : b'.length ≤ 400)
    (h3 : Same wa V) (h4 : Same wb V) (hs : Same W V) (f : ∀ j, At a j → j < V.heap.size) (f' : ∀ j, At a' j → j < V.heap.size) :
    Two W V.heap.size (V.heap.size + 1) b b' a a' m cap m' cap' ((V.alloc (.cells #[.int .u64 (b.length : Int), .slice a m cap] 25)).alloc (.cells #[.int .u64 (b'.length : Int), .slice a' m' cap'] 25)) := by
  have hx : Same V ((V.alloc (.cells #[.int .u64 (b.length : Int), .slice a m cap] 25)).alloc (.cells #[.int .u64 (b'.length : Int), .slice a' m' cap'] 25)) := ((Only.refl _ V).alloc _).alloc _
  have := hs.size
  exact Two.mk2 (by omega) l1 l2 ⟨heap_alloc_second _ _ _, heap_alloc_new' _ _ _ (by simp)⟩ hu hu' (fun j hj => by
      have : j < V.heap.size := hj.elim (f j) (f' j)
      omega) ((Same.trans h3 hx).mono (fun _ _ f => f.elim)) ((Same.trans h4 hx).mono (fun _ _ f => f.elim)) (Same.trans hs hx) this (by omega)
/-- the second variable made behind the calls -/
theorem Two.ofB {W wa wb V : World} {k : Nat} {b b' : List Bool} {a a' : Option Addr} {m cap m' cap' : Nat} {x0 x1 : Value} (hu : RU wa a m cap (ones b)) (hu' : RU wb a' m' cap' (ones b')) (l1 : b.length ≤ 400) (l2 : b'.length ≤ 400)
    (h3 : Same wa V) (h4 : Same wb V) (hs : Same W V) (f : ∀ j, At a j → j ≠ k ∧ j < V.heap.size) (f' : ∀ j, At a' j → j ≠ k ∧ j < V.heap.size) (o1 : V.heap[k]? = some (.cells #[x0, x1] 25 (0, 0))) (n1 : W.heap.size ≤ k) :
    Two W k V.heap.size b b' a a' m cap m' cap' (((V.setCell ⟨k, 0, none⟩ (.int .u64 (b.length : Int))).setCell ⟨k, 1, none⟩ (.slice a m cap)).alloc (.cells #[.int .u64 (b'.length : Int), .slice a' m' cap'] 25)) := by
  have hk := lt_of_heap o1
  have hsz : ((V.setCell ⟨k, 0, none⟩ (.int .u64 (b.length : Int))).setCell ⟨k, 1, none⟩ (.slice a m cap)).heap.size = V.heap.size := by simp [World.setCell]
  have hx : ∀ S : Nat → Prop, S k → Only S V (((V.setCell ⟨k, 0, none⟩ (.int .u64 (b.length : Int))).setCell ⟨k, 1, none⟩ (.slice a m cap)).alloc (.cells #[.int .u64 (b'.length : Int), .slice a' m' cap'] 25)) :=
    fun S hS => (((Only.refl S V).setCell _ _ (fun _ => hS)).setCell _ _ (fun _ => hS)).alloc _
  have hx2 : Same W (((V.setCell ⟨k, 0, none⟩ (.int .u64 (b.length : Int))).setCell ⟨k, 1, none⟩ (.slice a m cap)).alloc (.cells #[.int .u64 (b'.length : Int), .slice a' m' cap'] 25)) :=
    ((hs.setCell _ _ (fun h => absurd n1 (by simp at h; omega))).setCell _ _ (fun h => absurd n1 (by simp at h; omega))).alloc _
  have := hs.size
  refine Two.mk2 (by omega) l1 l2 ⟨?_, ?_⟩ hu hu' (fun j hj => by
      have : j ≠ k ∧ j < V.heap.size := hj.elim (f j) (f' j)
      omega) ((h3.mono (fun _ _ f => f.elim)).trans (hx (fun j => j = k ∨ j = V.heap.size) (.inl rfl)) (fun _ _ h => h)) ((h4.mono (fun _ _ f => f.elim)).trans (hx (fun j => j = k ∨ j = V.heap.size) (.inl rfl)) (fun _ _ h => h)) hx2 n1 this
  · rw [Below.heap_alloc _ _ _ (by rw [hsz]; exact hk)]
    exact setCell_heap (setCell_heap o1 0 _) 1 _
  · exact heap_alloc_new' _ _ _ hsz.symm
end Go.Proofs.Ythnfoiaemeklnaa.bs

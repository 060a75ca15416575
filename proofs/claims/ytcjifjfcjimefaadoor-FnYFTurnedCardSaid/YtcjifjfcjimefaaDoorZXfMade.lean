/-
  A new x-fast trie. Printed by gen_made.py.
-/
import Derived.Test.YtcjifjfcjimefaaDoorZXfEnd
import Derived.Deep.LoopGhost
namespace Go.Proofs.YtcjifjfcjimefaaDoor.xf
open Go.RowKit Go.Proofs.YtcjifjfcjimefaaDoor.base Go.Proofs.YtcjifjfcjimefaaDoor.heap Go.Proofs.YtcjifjfcjimefaaDoor.rows Go.Proofs.YtcjifjfcjimefaaDoor.mapn
set_option linter.unusedVariables false
variable [Inhabited Kd]

/-- the empty trie -/
def S0 (m root : Nat) : Sh := { m := m, lk := fun d p => if d = 0 ∧ p = 0 then some root else none, ch := fun _ _ _ => none, ent := fun _ => 0 }
omit [Inhabited Kd] in
theorem S0_K {m root : Nat} (hm : 2 ≤ m) (k : Nat) : ¬ (S0 m root).K k := fun h => by
  have h' : (if m = 0 ∧ k = 0 then some root else none) ≠ none := h
  rw [if_neg (by omega)] at h'
  exact h' rfl
omit [Inhabited Kd] in
theorem S0_lk {m root d p : Nat} (h : (S0 m root).lk d p ≠ none) : d = 0 ∧ p = 0 := by
  have h' : (if d = 0 ∧ p = 0 then some root else none) ≠ none := h
  split at h'
  · assumption
  · exact absurd rfl h'
omit [Inhabited Kd] in
theorem S0_ok {m root : Nat} (hm : 2 ≤ m) (hm2 : m ≤ 64) : (S0 m root).Ok := by
  refine ⟨⟨hm, hm2⟩, fun d p _ h => ?_, ⟨root, rfl⟩, fun d p _ h => ?_, fun d p _ h => .inl (S0_lk h).1, fun d p d' p' b _ _ h1 h2 => ?_, fun d p _ h => ?_, fun d p _ h => ?_, fun k hk => absurd hk (S0_K hm k), fun k hk => absurd hk (S0_K hm k)⟩
  · have := (S0_lk h).1; omega
  · obtain ⟨rfl, rfl⟩ := S0_lk h; simp
  · have e1 := S0_lk (m := m) (root := root) (d := d) (p := p) (by rw [h1]; simp)
    have e2 := S0_lk (m := m) (root := root) (d := d') (p := p') (by rw [h2]; simp)
    omega
  · exact .inr ⟨fun h' => by have := (S0_lk h'.2).1; omega, .inl ⟨rfl, rfl, fun k hk => absurd hk (S0_K hm k)⟩⟩
  · exact .inr ⟨fun h' => by have := (S0_lk h'.2).1; omega, .inl ⟨rfl, rfl, fun k hk => absurd hk (S0_K hm k)⟩⟩
omit [Inhabited Kd] in
theorem run_makeMapN (w : World) : (Instr.makeMap 109 (some (.int .i64 50))).run Tryd.prog w = .ok (.map (some w.heap.size)) (w.alloc (.map #[] 0)) := by
  simp [Instr.makeMap, run_underlying Tryd.underlying109, asInt, asIntOf, Result.andThen]
noncomputable def tail12 : Code := (Tryd.f48.body.bind (codeFrom 12)).getD .skip
/-- the layers' row is made -/
def Rowd (w0 w : World) (tb m : Nat) : Prop := ∃ lb A, A.size = m ∧ w0.heap.size ≤ lb ∧ w.heap[tb]? = some (.cells #[.slice (some ⟨lb, 0, none⟩) m m, .pointer none, .int .u64 0, .int .u8 0, .int .u8 0, .pointer none, .pointer none] 106 (0, 0)) ∧ w.heap[lb]? = some (.cells A 109 (0, 0)) ∧ Only (fun k => k = tb) w0 w ∧ tb < w0.heap.size
/-- in the course of it: i layers are made -/
structure Mk (w wr : World) (tb lb m i : Nat) (md : Nat → Nat) : Prop where
  obj : wr.heap[tb]? = some (.cells #[.slice (some ⟨lb, 0, none⟩) m m, .pointer none, .int .u64 0, .int .u8 (m : Int), .int .u8 ((64 : Int) - (m : Int)), .pointer none, .pointer none] 106 (0, 0))
  row : ∃ A, A.size = m ∧ wr.heap[lb]? = some (.cells A 109 (0, 0)) ∧ ∀ j, j < i → A[j]? = some (.map (some (md j)))
  maps : ∀ j, j < i → MapN wr (md j) (fun _ => none)
  new : ∀ j, j < i → w.heap.size ≤ md j
  only : Only (fun k => k = tb) w wr
  lbn : w.heap.size ≤ lb
  apart : ∀ j, j < i → md j ≠ lb ∧ ∀ j', j' < i → md j = md j' → j = j'
omit [Inhabited Kd] in
theorem Mk.step {w wr : World} {tb lb m i : Nat} {md : Nat → Nat} (h : Mk w wr tb lb m i md) (hi : i < m) (ht : tb < w.heap.size) : Mk w ((wr.alloc (.map #[] 0)).setCell ⟨lb, i, none⟩ (.map (some wr.heap.size))) tb lb m (i + 1) (fun j => if j = i then wr.heap.size else md j) := by
  obtain ⟨A, hA, hl, hr⟩ := h.row
  have hlb := lt_of_heap hl
  have hz := h.only.size
  have ho1 : Same wr (wr.alloc (.map #[] 0)) := (Only.refl _ _).alloc _
  have ho2 : Only (fun k => k = lb) (wr.alloc (.map #[] 0)) ((wr.alloc (.map #[] 0)).setCell ⟨lb, i, none⟩ (.map (some wr.heap.size))) := (Only.refl _ _).setCell ⟨lb, i, none⟩ _ (fun _ => rfl)
  have hlbn := h.lbn
  have hold : ∀ j, j < i → md j < wr.heap.size := fun j hj => (h.maps j hj).lt
  refine ⟨ho2.obj (ho1.obj h.obj id) (fun e => by have : tb = lb := e; omega), ⟨A.setIfInBounds i (.map (some wr.heap.size)), by simp [hA], setCell_heap (ho1.obj hl id) i _, fun j hj => ?_⟩, fun j hj => ?_, fun j hj => ?_, ?_, h.lbn, fun j hj => ?_⟩
  · by_cases e : j = i
    · subst e
      rw [if_pos rfl, Array.getElem?_setIfInBounds_self_of_lt (by omega)]
    · rw [if_neg e, Array.getElem?_setIfInBounds_ne (by omega)]
      exact hr j (by omega)
  · by_cases e : j = i
    · rw [if_pos e]
      exact (MapN.made wr).of_heap (ho2.block _ (by simp) (fun e => by have : wr.heap.size = lb := e; omega))
    · rw [if_neg e]
      have hj' : j < i := by omega
      have h5 := (h.maps j hj').of_heap (ho1.block _ (h.maps j hj').lt id)
      exact h5.of_heap (ho2.block _ h5.lt (fun e => (h.apart j hj').1 e))
  · by_cases e : j = i
    · rw [if_pos e]; omega
    · rw [if_neg e]; exact h.new j (by omega)
  · exact h.only.trans (T := fun k => k = lb) (Only.trans (S := fun k => k = lb) (ho1.mono (fun _ _ f => f.elim)) ho2 (fun _ _ h => h)) (fun k hk e => by have : k = lb := e; omega)
  · by_cases e : j = i
    · subst e
      simp only [if_pos]
      refine ⟨by omega, fun j' hj' => ?_⟩
      by_cases e' : j' = j
      · intro _; exact e'.symm
      · rw [if_neg e']; intro h9; have := hold j' (by omega); omega
    · simp only [if_neg e]
      refine ⟨(h.apart j (by omega)).1, fun j' hj' => ?_⟩
      by_cases e' : j' = i
      · rw [if_pos e']; intro h9; have := hold j (by omega); omega
      · rw [if_neg e']; exact (h.apart j (by omega)).2 j' (by omega)
/-- said of init: a trie -/
def MadeQ (m tb : Nat) (w w' : World) : Prop := ∃ lb root md, Trie w' (S0 m root) tb lb root 0 md none none ∧ Only (fun k => k = tb) w w' ∧ (∀ k, Own (S0 m root) tb md k → k = tb ∨ w.heap.size ≤ k) ∧ w.heap.size ≤ lb
theorem Mk.made {w wr : World} {tb lb m : Nat} {md : Nat → Nat} (h : Mk w wr tb lb m m md) (hm : 2 ≤ m) (hm2 : m ≤ 64) (ht : tb < w.heap.size) {wx : World} (hx : wx = ((wr.setCell ⟨tb, 2, none⟩ (.int .u64 0)).alloc (.cells #[.nilIface, op none, op none, op none] 112)).setCell ⟨tb, 1, none⟩ (pb wr.heap.size)) : MadeQ m tb w wx := by
  have hz := h.only.size
  have ho : Only (fun k => k = tb) wr wx := by
    rw [hx]
    exact Only.setCell (Only.alloc (Only.setCell (Only.refl (fun k => k = tb) wr) ⟨tb, 2, none⟩ _ (fun _ => rfl)) _) ⟨tb, 1, none⟩ _ (fun _ => rfl)
  have hobj : wx.heap[tb]? = some (.cells #[.slice (some ⟨lb, 0, none⟩) m m, op (some wr.heap.size), .int .u64 ((0 : Nat) : Int), .int .u8 (m : Int), .int .u8 ((64 : Int) - (m : Int)), op none, op none] 106 (0, 0)) := by
    rw [hx]
    exact setCell_heap (((Only.refl (fun _ => False) (wr.setCell ⟨tb, 2, none⟩ (.int .u64 0))).alloc _).obj (setCell_heap h.obj 2 (.int .u64 0)) id) 1 (pb wr.heap.size)
  have hnd : Nd wx wr.heap.size .nilIface none none none := by
    rw [hx]
    refine ((Only.refl (fun k => k = tb) _).setCell ⟨tb, 1, none⟩ _ (fun _ => rfl)).obj (heap_alloc_new' _ _ _ (by simp)) (fun e => by have : wr.heap.size = tb := e; omega)
  obtain ⟨A, hA, hl, hr⟩ := h.row
  have hlb := lt_of_heap hl
  refine ⟨lb, wr.heap.size, md, ⟨S0_ok hm hm2, fun d p b hd hb => ?_, ⟨⟨hm, hm2⟩, fun i hi => ?_, Nat.lt_of_lt_of_le hlb ho.size, fun i hi => ?_⟩, fun i j hi hj => (h.apart i hi).2 j hj, ⟨hobj⟩, rfl, .inl ⟨S0_K hm, rfl, rfl⟩⟩, h.only.trans ho (fun _ _ h => h), fun k hk => ?_, h.lbn⟩
  · obtain ⟨rfl, rfl⟩ := S0_lk (m := m) (root := wr.heap.size) (d := d) (p := p) (by rw [hb]; simp)
    cases hb
    show Nd wx wr.heap.size (if 0 = m then _ else .nilIface) none none none
    rw [if_neg (by omega)]
    exact hnd
  · exact block_cell (ho.obj hl (fun e => by have : lb = tb := e; have := h.lbn; omega)) (hr i hi)
  · refine ⟨_, (h.maps i hi).of_heap (ho.block _ (h.maps i hi).lt (fun e => by have : md i = tb := e; have := h.new i hi; omega)), fun y _ => ?_⟩
    have hz9 : (S0 m wr.heap.size).lk (i + 1) (pre m (i + 1) y) = none := by
      cases hb : (S0 m wr.heap.size).lk (i + 1) (pre m (i + 1) y) with
      | none => rfl
      | some q => have := (S0_lk (m := m) (root := wr.heap.size) (d := i + 1) (p := pre m (i + 1) y) (by rw [hb]; simp)).1; omega
    show none = Option.map _ ((S0 m wr.heap.size).lk (i + 1) (pre m (i + 1) y))
    rw [hz9]; rfl
  · rcases hk with h1 | ⟨i, hi, h1⟩ | ⟨d, p, _, h1⟩
    · exact .inl h1
    · right; rw [h1]; exact h.new i hi
    · obtain ⟨rfl, rfl⟩ := S0_lk (m := m) (root := wr.heap.size) (d := d) (p := p) (by rw [h1]; simp)
      cases h1
      exact .inr (by omega)
set_option maxRecDepth 1000000 in
set_option maxHeartbeats 3200000 in
theorem init12 (w0 w : World) (tb m : Nat) (hm : 2 ≤ m) (hm2 : m ≤ 64) (hr : Rowd w0 w tb m) (u1 u2 u3 u5 u6 u7 u8 u9 u10 u11 u12 u13 u14 u15 u16 u17 u18 u19 u20 u21 u22 u23 u24 u25 u26 u27 u28 u29 u30 u31 u32 u33 u34 u35 u36 u37 u38 u39 u40 u41 u42 u43 u44 u45 u46 u47 u48 u49 u50 u51 u52 u53 u54 u55 u56 : Value) :
    Code.wp Tryd.prog tail12 (bodyPost Tryd.prog Tryd.f48 (fun e w' => e = .returned (.tuple #[]) ∧ MadeQ m tb w0 w')) ⟨(pb tb :: u1 :: u2 :: u3 :: .int .u8 (m : Int) :: u5 :: u6 :: u7 :: u8 :: u9 :: u10 :: u11 :: u12 :: u13 :: u14 :: u15 :: u16 :: u17 :: u18 :: u19 :: u20 :: u21 :: u22 :: u23 :: u24 :: u25 :: u26 :: u27 :: u28 :: u29 :: u30 :: u31 :: u32 :: u33 :: u34 :: u35 :: u36 :: u37 :: u38 :: u39 :: u40 :: u41 :: u42 :: u43 :: u44 :: u45 :: u46 :: u47 :: u48 :: u49 :: u50 :: u51 :: u52 :: u53 :: u54 :: u55 :: u56 :: []).toArray, []⟩ w := by
  obtain ⟨lb, A0, hA, hlbn, ht', hl, ho, htb⟩ := hr
  have t3 : w.cell? ⟨tb, 3, none⟩ = some (.int .u8 0) := block_cell ht' rfl
  have t4 : w.cell? ⟨tb, 4, none⟩ = some (.int .u8 0) := block_cell ht' rfl
  have tf : ∀ i, w.frozen? ⟨tb, i, none⟩ = false := fun i => block_free ht'
  have lt := lt_of_heap ht'
  have hw6 : IntKind.u8.wrap ((64 : Int) - (m : Int)) = (64 : Int) - (m : Int) := by rw [IntKind.wrap_u8]; omega
  have HM0 : Hid (Mk w0 ((w.setCell ⟨tb, 3, none⟩ (.int .u8 (m : Int))).setCell ⟨tb, 4, none⟩ (.int .u8 ((64 : Int) - (m : Int)))) tb lb m 0 (fun _ => 0)) := Lib.hid (by
    have ho2 : Only (fun k => k = tb) w ((w.setCell ⟨tb, 3, none⟩ (.int .u8 (m : Int))).setCell ⟨tb, 4, none⟩ (.int .u8 ((64 : Int) - (m : Int)))) := Only.setCell (Only.setCell (Only.refl (fun k => k = tb) w) ⟨tb, 3, none⟩ _ (fun _ => rfl)) ⟨tb, 4, none⟩ _ (fun _ => rfl)
    exact ⟨setCell_heap (setCell_heap ht' 3 (.int .u8 (m : Int))) 4 (.int .u8 ((64 : Int) - (m : Int))), ⟨A0, hA, ho2.obj hl (fun e => by have : lb = tb := e; omega), fun j hj => by omega⟩, fun j hj => by omega, fun j hj => by omega, ho.trans ho2 (fun _ _ h => h), hlbn, fun j hj => by omega⟩)
  have HTB : Hid (tb < w0.heap.size) := Lib.hid htb
  clear ht' hl ho htb hlbn hA
  conv => arg 2; whnf
  go_upto_region 15 with fail
  clear t3 t4 tf lt hw6
  have hmm := run_makeMapN
  go_loopw [5] (fun i wr => ∃ (j : Nat) (md : Nat → Nat), i = .int .u8 (j : Int) ∧ j ≤ m ∧ Hid (Mk w0 wr tb lb m j md)) (fun i _ => m - (intOf i).toNat)
  case atStart => exact ⟨0, _, rfl, Nat.zero_le _, HM0⟩
  case round =>
    clear HM0
    obtain ⟨j, md, rfl, hj, HMJ⟩ := hrel
    by_cases hlt : j < m
    · have hlt' : (j : Int) < (m : Int) := by omega
      obtain ⟨A, hA, hl, _⟩ := HMJ.out.row
      have t0 : wr.cell? ⟨tb, 0, none⟩ = some (.slice (some ⟨lb, 0, none⟩) m m) := block_cell HMJ.out.obj rfl
      have lt := lt_of_heap HMJ.out.obj
      have l0 : wr.cell? ⟨lb, j, none⟩ = some A[j] := block_cell hl (Array.getElem?_eq_getElem (by omega))
      have lf : ∀ i, wr.frozen? ⟨lb, i, none⟩ = false := fun i => block_free hl
      have ll := lt_of_heap hl
      obtain ⟨aj, haj⟩ : ∃ aj, A[j] = aj := ⟨_, rfl⟩
      rw [haj] at l0
      have HN := Lib.hid (HMJ.out.step hlt HTB.out)
      rw [World.setCell_alloc_past _ _ _ _ ll] at HN
      clear haj hl hA
      go_wp2_with fail
      go_roundw
      case rel => exact ⟨j + 1, _, by go_num, by omega, HN⟩
      case measure => simp [intOf]; omega
    · have hlt' : ¬ (j : Int) < (m : Int) := by omega
      obtain rfl : j = m := by omega
      have t2 : wr.cell? ⟨tb, 2, none⟩ = some (.int .u64 0) := block_cell HMJ.out.obj rfl
      have t1 : wr.cell? ⟨tb, 1, none⟩ = some (.pointer none) := block_cell HMJ.out.obj rfl
      have tf : ∀ i, wr.frozen? ⟨tb, i, none⟩ = false := fun i => block_free HMJ.out.obj
      have lt := lt_of_heap HMJ.out.obj
      have HNN := Lib.hid (newNode_in none (wr.setCell ⟨tb, 2, none⟩ (.int .u64 0)))
      go_wp2_with fail
      refine HNN.out.mono ?_
      rintro e w6 ⟨rfl, hw6⟩
      have HW6 := Lib.hid hw6
      have HO6 : Hid (Only (fun k => k = tb) wr w6) := Lib.hid (by rw [hw6.out]; exact Only.alloc (Only.setCell (Only.refl (fun k => k = tb) wr) ⟨tb, 2, none⟩ _ (fun _ => rfl)) _)
      have hob : w6.heap[tb]? = some (.cells #[.slice (some ⟨lb, 0, none⟩) j j, .pointer none, .int .u64 0, .int .u8 (j : Int), .int .u8 ((64 : Int) - (j : Int)), .pointer none, .pointer none] 106 (0, 0)) := by
        rw [hw6.out]
        exact ((Only.refl (fun _ => False) (wr.setCell ⟨tb, 2, none⟩ (.int .u64 0))).alloc _).obj (setCell_heap HMJ.out.obj 2 (.int .u64 0)) id
      have s1 : w6.cell? ⟨tb, 1, none⟩ = some (.pointer none) := block_cell hob rfl
      have sf : ∀ i, w6.frozen? ⟨tb, i, none⟩ = false := fun i => block_free hob
      have sl := lt_of_heap hob
      have hsz : (wr.setCell ⟨tb, 2, none⟩ (.int .u64 0)).heap.size = wr.heap.size := by simp
      rw [hsz, show op (some wr.heap.size) = pb wr.heap.size from rfl]
      clear hw6 t2 t1 tf lt HNN hob hsz
      go_wp2_with fail
      go_end0
      exact ⟨rfl, HMJ.out.made hm hm2 HTB.out (by rw [HW6.out.out])⟩
/-- said of New -/
def NewQ (m : Nat) (w : World) (e : Ending) (w' : World) : Prop := ∃ tb lb root md, e = .returned (pb tb) ∧ Trie w' (S0 m root) tb lb root 0 md none none ∧ Same w w' ∧ (∀ k, Own (S0 m root) tb md k → w.heap.size ≤ k) ∧ w.heap.size ≤ lb
omit [Inhabited Kd] in
theorem hmk9 (m : Nat) (hm : m ≤ 64) (w : World) : (Instr.makeSlice 103 (.int .u8 (m : Int)) (.int .u8 (m : Int))).run Tryd.prog w = .ok (.slice (some ⟨w.heap.size, 0, none⟩) m m) (w.alloc (.cells (madeCells (Value.map none).cells (m * 1)) 109)) := make_eq (bytes := 8) (size := 1) (z := .map none) .u8 .u8 Tryd.underlying103 (by kernel_rfl) m (by omega) (by omega) w
set_option maxRecDepth 1000000 in
set_option maxHeartbeats 3200000 in
theorem new8 (w : World) : Calls Tryd.prog 31 #[.iface 5 (.int .u8 0)] w (NewQ 8 w) := by
  have HI : Hid (∀ w0 tb, w0.heap[tb]? = some (.cells #[.slice none 0 0, .pointer none, .int .u64 0, .int .u8 0, .int .u8 0, .pointer none, .pointer none] 106 (0, 0)) → Calls Tryd.prog 48 #[pb tb, .iface 5 (.int .u8 0)] w0 (fun e w' => e = .returned (.tuple #[]) ∧ MadeQ 8 tb w0 w')) := Lib.hid (fun w0 tb h => by
    have hmk : ∀ w : World, (Instr.makeSlice 103 (.int .u8 8) (.int .u8 8)).run Tryd.prog w = .ok (.slice (some ⟨w.heap.size, 0, none⟩) 8 8) (w.alloc (.cells (madeCells (Value.map none).cells (8 * 1)) 109)) := fun w => hmk9 8 (by omega) w
    have t0 : w0.cell? ⟨tb, 0, none⟩ = some (.slice none 0 0) := block_cell h rfl
    have tf : ∀ i, w0.frozen? ⟨tb, i, none⟩ = false := fun i => block_free h
    have lt := lt_of_heap h
    obtain ⟨A0, hA0⟩ : ∃ A0, madeCells (Value.map none).cells (8 * 1) = A0 := ⟨_, rfl⟩
    have hsz : A0.size = 8 := by
      have h9 := congrArg List.length (made_one (.map none) rfl 8)
      rw [← hA0]
      simpa using h9
    rw [hA0] at hmk
    have HR : Hid (Rowd w0 ((w0.setCell ⟨tb, 0, none⟩ (.slice (some ⟨w0.heap.size, 0, none⟩) 8 8)).alloc (.cells A0 109)) tb 8) := Lib.hid ⟨w0.heap.size, A0, hsz, Nat.le_refl _, ((Only.refl (fun _ => False) _).alloc _).obj (setCell_heap h 0 (.slice (some ⟨w0.heap.size, 0, none⟩) 8 8)) id, heap_alloc_new' _ _ _ (by simp), ((Only.refl (fun k => k = tb) w0).setCell ⟨tb, 0, none⟩ _ (fun _ => rfl)).alloc _, lt⟩
    have as0 : ∀ w : World, (Instr.typeAssert (.iface 5 (.int .u8 0)) 20 5 true).run Tryd.prog w = .ok (.tuple #[.int .u8 0, .bool true]) w := fun w => by kernel_rfl
    have as1 : ∀ w : World, (Instr.typeAssert (.iface 5 (.int .u8 0)) 20 77 true).run Tryd.prog w = .ok (.tuple #[.int .u16 0, .bool false]) w := fun w => by kernel_rfl
    have as2 : ∀ w : World, (Instr.typeAssert (.iface 5 (.int .u8 0)) 20 99 true).run Tryd.prog w = .ok (.tuple #[.int .u32 0, .bool false]) w := fun w => by kernel_rfl
    have as3 : ∀ w : World, (Instr.typeAssert (.iface 5 (.int .u8 0)) 20 57 true).run Tryd.prog w = .ok (.tuple #[.int .u64 0, .bool false]) w := fun w => by kernel_rfl
    have as4 : ∀ w : World, (Instr.typeAssert (.iface 5 (.int .u8 0)) 20 25 true).run Tryd.prog w = .ok (.tuple #[.int .u64 0, .bool false]) w := fun w => by kernel_rfl
    clear hA0 hsz h
    go_enter Tryd.func48, Tryd.ntmps48
    go_upto_region 11 with fail
    go_cut [] (fun wx => Hid (wx = ((w0.setCell ⟨tb, 0, none⟩ (.slice (some ⟨w0.heap.size, 0, none⟩) 8 8)).alloc (.cells A0 109))))
    case first =>
      go_wp2_with fail
      go_meet
      exact Lib.hid rfl
    case rest =>
      rw [hcut.out]
      refine (‹∀ (a : Act) (w_1 : World), Code.wp _ _ _ a w_1 → _› _ _ ?_)
      exact init12 w0 _ tb 8 (by omega) (by omega) HR.out _ _ _ _ _ _ _ _ _ _ _ _ _ _ _ _ _ _ _ _ _ _ _ _ _ _ _ _ _ _ _ _ _ _ _ _ _ _ _ _ _ _ _ _ _ _ _ _ _ _ _ _ _ _ _)
  go_enter Tryd.func31, Tryd.ntmps31
  go_wp2_with fail
  refine (HI.out _ _ (heap_alloc_new _ _)).mono ?_
  rintro e w1 ⟨rfl, lb, root, md, g1, g2, g3, g4⟩
  have HX : Hid (NewQ 8 w (.returned (pb w.heap.size)) w1) := Lib.hid ⟨w.heap.size, lb, root, md, rfl, g1, new_only ((Only.refl _ w).alloc _) g2 (fun k e => by have : k = w.heap.size := e; omega), fun k hk => by
    rcases g3 k hk with h | h
    · omega
    · have : w.heap.size + 1 ≤ k := by simpa using h
      omega, Nat.le_of_succ_le (by simpa using g4)⟩
  clear g1 g2 g3 g4
  go_wp2_with fail
  go_ret
  exact HX.out
set_option maxRecDepth 1000000 in
set_option maxHeartbeats 3200000 in
theorem new16 (w : World) : Calls Tryd.prog 31 #[.iface 77 (.int .u16 0)] w (NewQ 16 w) := by
  have HI : Hid (∀ w0 tb, w0.heap[tb]? = some (.cells #[.slice none 0 0, .pointer none, .int .u64 0, .int .u8 0, .int .u8 0, .pointer none, .pointer none] 106 (0, 0)) → Calls Tryd.prog 48 #[pb tb, .iface 77 (.int .u16 0)] w0 (fun e w' => e = .returned (.tuple #[]) ∧ MadeQ 16 tb w0 w')) := Lib.hid (fun w0 tb h => by
    have hmk : ∀ w : World, (Instr.makeSlice 103 (.int .u8 16) (.int .u8 16)).run Tryd.prog w = .ok (.slice (some ⟨w.heap.size, 0, none⟩) 16 16) (w.alloc (.cells (madeCells (Value.map none).cells (16 * 1)) 109)) := fun w => hmk9 16 (by omega) w
    have t0 : w0.cell? ⟨tb, 0, none⟩ = some (.slice none 0 0) := block_cell h rfl
    have tf : ∀ i, w0.frozen? ⟨tb, i, none⟩ = false := fun i => block_free h
    have lt := lt_of_heap h
    obtain ⟨A0, hA0⟩ : ∃ A0, madeCells (Value.map none).cells (16 * 1) = A0 := ⟨_, rfl⟩
    have hsz : A0.size = 16 := by
      have h9 := congrArg List.length (made_one (.map none) rfl 16)
      rw [← hA0]
      simpa using h9
    rw [hA0] at hmk
    have HR : Hid (Rowd w0 ((w0.setCell ⟨tb, 0, none⟩ (.slice (some ⟨w0.heap.size, 0, none⟩) 16 16)).alloc (.cells A0 109)) tb 16) := Lib.hid ⟨w0.heap.size, A0, hsz, Nat.le_refl _, ((Only.refl (fun _ => False) _).alloc _).obj (setCell_heap h 0 (.slice (some ⟨w0.heap.size, 0, none⟩) 16 16)) id, heap_alloc_new' _ _ _ (by simp), ((Only.refl (fun k => k = tb) w0).setCell ⟨tb, 0, none⟩ _ (fun _ => rfl)).alloc _, lt⟩
    have as0 : ∀ w : World, (Instr.typeAssert (.iface 77 (.int .u16 0)) 20 5 true).run Tryd.prog w = .ok (.tuple #[.int .u8 0, .bool false]) w := fun w => by kernel_rfl
    have as1 : ∀ w : World, (Instr.typeAssert (.iface 77 (.int .u16 0)) 20 77 true).run Tryd.prog w = .ok (.tuple #[.int .u16 0, .bool true]) w := fun w => by kernel_rfl
    have as2 : ∀ w : World, (Instr.typeAssert (.iface 77 (.int .u16 0)) 20 99 true).run Tryd.prog w = .ok (.tuple #[.int .u32 0, .bool false]) w := fun w => by kernel_rfl
    have as3 : ∀ w : World, (Instr.typeAssert (.iface 77 (.int .u16 0)) 20 57 true).run Tryd.prog w = .ok (.tuple #[.int .u64 0, .bool false]) w := fun w => by kernel_rfl
    have as4 : ∀ w : World, (Instr.typeAssert (.iface 77 (.int .u16 0)) 20 25 true).run Tryd.prog w = .ok (.tuple #[.int .u64 0, .bool false]) w := fun w => by kernel_rfl
    clear hA0 hsz h
    go_enter Tryd.func48, Tryd.ntmps48
    go_upto_region 11 with fail
    go_cut [] (fun wx => Hid (wx = ((w0.setCell ⟨tb, 0, none⟩ (.slice (some ⟨w0.heap.size, 0, none⟩) 16 16)).alloc (.cells A0 109))))
    case first =>
      go_wp2_with fail
      go_meet
      exact Lib.hid rfl
    case rest =>
      rw [hcut.out]
      refine (‹∀ (a : Act) (w_1 : World), Code.wp _ _ _ a w_1 → _› _ _ ?_)
      exact init12 w0 _ tb 16 (by omega) (by omega) HR.out _ _ _ _ _ _ _ _ _ _ _ _ _ _ _ _ _ _ _ _ _ _ _ _ _ _ _ _ _ _ _ _ _ _ _ _ _ _ _ _ _ _ _ _ _ _ _ _ _ _ _ _ _ _ _)
  go_enter Tryd.func31, Tryd.ntmps31
  go_wp2_with fail
  refine (HI.out _ _ (heap_alloc_new _ _)).mono ?_
  rintro e w1 ⟨rfl, lb, root, md, g1, g2, g3, g4⟩
  have HX : Hid (NewQ 16 w (.returned (pb w.heap.size)) w1) := Lib.hid ⟨w.heap.size, lb, root, md, rfl, g1, new_only ((Only.refl _ w).alloc _) g2 (fun k e => by have : k = w.heap.size := e; omega), fun k hk => by
    rcases g3 k hk with h | h
    · omega
    · have : w.heap.size + 1 ≤ k := by simpa using h
      omega, Nat.le_of_succ_le (by simpa using g4)⟩
  clear g1 g2 g3 g4
  go_wp2_with fail
  go_ret
  exact HX.out
set_option maxRecDepth 1000000 in
set_option maxHeartbeats 3200000 in
theorem new32 (w : World) : Calls Tryd.prog 31 #[.iface 99 (.int .u32 0)] w (NewQ 32 w) := by
  have HI : Hid (∀ w0 tb, w0.heap[tb]? = some (.cells #[.slice none 0 0, .pointer none, .int .u64 0, .int .u8 0, .int .u8 0, .pointer none, .pointer none] 106 (0, 0)) → Calls Tryd.prog 48 #[pb tb, .iface 99 (.int .u32 0)] w0 (fun e w' => e = .returned (.tuple #[]) ∧ MadeQ 32 tb w0 w')) := Lib.hid (fun w0 tb h => by
    have hmk : ∀ w : World, (Instr.makeSlice 103 (.int .u8 32) (.int .u8 32)).run Tryd.prog w = .ok (.slice (some ⟨w.heap.size, 0, none⟩) 32 32) (w.alloc (.cells (madeCells (Value.map none).cells (32 * 1)) 109)) := fun w => hmk9 32 (by omega) w
    have t0 : w0.cell? ⟨tb, 0, none⟩ = some (.slice none 0 0) := block_cell h rfl
    have tf : ∀ i, w0.frozen? ⟨tb, i, none⟩ = false := fun i => block_free h
    have lt := lt_of_heap h
    obtain ⟨A0, hA0⟩ : ∃ A0, madeCells (Value.map none).cells (32 * 1) = A0 := ⟨_, rfl⟩
    have hsz : A0.size = 32 := by
      have h9 := congrArg List.length (made_one (.map none) rfl 32)
      rw [← hA0]
      simpa using h9
    rw [hA0] at hmk
    have HR : Hid (Rowd w0 ((w0.setCell ⟨tb, 0, none⟩ (.slice (some ⟨w0.heap.size, 0, none⟩) 32 32)).alloc (.cells A0 109)) tb 32) := Lib.hid ⟨w0.heap.size, A0, hsz, Nat.le_refl _, ((Only.refl (fun _ => False) _).alloc _).obj (setCell_heap h 0 (.slice (some ⟨w0.heap.size, 0, none⟩) 32 32)) id, heap_alloc_new' _ _ _ (by simp), ((Only.refl (fun k => k = tb) w0).setCell ⟨tb, 0, none⟩ _ (fun _ => rfl)).alloc _, lt⟩
    have as0 : ∀ w : World, (Instr.typeAssert (.iface 99 (.int .u32 0)) 20 5 true).run Tryd.prog w = .ok (.tuple #[.int .u8 0, .bool false]) w := fun w => by kernel_rfl
    have as1 : ∀ w : World, (Instr.typeAssert (.iface 99 (.int .u32 0)) 20 77 true).run Tryd.prog w = .ok (.tuple #[.int .u16 0, .bool false]) w := fun w => by kernel_rfl
    have as2 : ∀ w : World, (Instr.typeAssert (.iface 99 (.int .u32 0)) 20 99 true).run Tryd.prog w = .ok (.tuple #[.int .u32 0, .bool true]) w := fun w => by kernel_rfl
    have as3 : ∀ w : World, (Instr.typeAssert (.iface 99 (.int .u32 0)) 20 57 true).run Tryd.prog w = .ok (.tuple #[.int .u64 0, .bool false]) w := fun w => by kernel_rfl
    have as4 : ∀ w : World, (Instr.typeAssert (.iface 99 (.int .u32 0)) 20 25 true).run Tryd.prog w = .ok (.tuple #[.int .u64 0, .bool false]) w := fun w => by kernel_rfl
    clear hA0 hsz h
    go_enter Tryd.func48, Tryd.ntmps48
    go_upto_region 11 with fail
    go_cut [] (fun wx => Hid (wx = ((w0.setCell ⟨tb, 0, none⟩ (.slice (some ⟨w0.heap.size, 0, none⟩) 32 32)).alloc (.cells A0 109))))
    case first =>
      go_wp2_with fail
      go_meet
      exact Lib.hid rfl
    case rest =>
      rw [hcut.out]
      refine (‹∀ (a : Act) (w_1 : World), Code.wp _ _ _ a w_1 → _› _ _ ?_)
      exact init12 w0 _ tb 32 (by omega) (by omega) HR.out _ _ _ _ _ _ _ _ _ _ _ _ _ _ _ _ _ _ _ _ _ _ _ _ _ _ _ _ _ _ _ _ _ _ _ _ _ _ _ _ _ _ _ _ _ _ _ _ _ _ _ _ _ _ _)
  go_enter Tryd.func31, Tryd.ntmps31
  go_wp2_with fail
  refine (HI.out _ _ (heap_alloc_new _ _)).mono ?_
  rintro e w1 ⟨rfl, lb, root, md, g1, g2, g3, g4⟩
  have HX : Hid (NewQ 32 w (.returned (pb w.heap.size)) w1) := Lib.hid ⟨w.heap.size, lb, root, md, rfl, g1, new_only ((Only.refl _ w).alloc _) g2 (fun k e => by have : k = w.heap.size := e; omega), fun k hk => by
    rcases g3 k hk with h | h
    · omega
    · have : w.heap.size + 1 ≤ k := by simpa using h
      omega, Nat.le_of_succ_le (by simpa using g4)⟩
  clear g1 g2 g3 g4
  go_wp2_with fail
  go_ret
  exact HX.out
set_option maxRecDepth 1000000 in
set_option maxHeartbeats 3200000 in
theorem new64 (w : World) : Calls Tryd.prog 31 #[.iface 25 (.int .u64 0)] w (NewQ 64 w) := by
  have HI : Hid (∀ w0 tb, w0.heap[tb]? = some (.cells #[.slice none 0 0, .pointer none, .int .u64 0, .int .u8 0, .int .u8 0, .pointer none, .pointer none] 106 (0, 0)) → Calls Tryd.prog 48 #[pb tb, .iface 25 (.int .u64 0)] w0 (fun e w' => e = .returned (.tuple #[]) ∧ MadeQ 64 tb w0 w')) := Lib.hid (fun w0 tb h => by
    have hmk : ∀ w : World, (Instr.makeSlice 103 (.int .u8 64) (.int .u8 64)).run Tryd.prog w = .ok (.slice (some ⟨w.heap.size, 0, none⟩) 64 64) (w.alloc (.cells (madeCells (Value.map none).cells (64 * 1)) 109)) := fun w => hmk9 64 (by omega) w
    have t0 : w0.cell? ⟨tb, 0, none⟩ = some (.slice none 0 0) := block_cell h rfl
    have tf : ∀ i, w0.frozen? ⟨tb, i, none⟩ = false := fun i => block_free h
    have lt := lt_of_heap h
    obtain ⟨A0, hA0⟩ : ∃ A0, madeCells (Value.map none).cells (64 * 1) = A0 := ⟨_, rfl⟩
    have hsz : A0.size = 64 := by
      have h9 := congrArg List.length (made_one (.map none) rfl 64)
      rw [← hA0]
      simpa using h9
    rw [hA0] at hmk
    have HR : Hid (Rowd w0 ((w0.setCell ⟨tb, 0, none⟩ (.slice (some ⟨w0.heap.size, 0, none⟩) 64 64)).alloc (.cells A0 109)) tb 64) := Lib.hid ⟨w0.heap.size, A0, hsz, Nat.le_refl _, ((Only.refl (fun _ => False) _).alloc _).obj (setCell_heap h 0 (.slice (some ⟨w0.heap.size, 0, none⟩) 64 64)) id, heap_alloc_new' _ _ _ (by simp), ((Only.refl (fun k => k = tb) w0).setCell ⟨tb, 0, none⟩ _ (fun _ => rfl)).alloc _, lt⟩
    have as0 : ∀ w : World, (Instr.typeAssert (.iface 25 (.int .u64 0)) 20 5 true).run Tryd.prog w = .ok (.tuple #[.int .u8 0, .bool false]) w := fun w => by kernel_rfl
    have as1 : ∀ w : World, (Instr.typeAssert (.iface 25 (.int .u64 0)) 20 77 true).run Tryd.prog w = .ok (.tuple #[.int .u16 0, .bool false]) w := fun w => by kernel_rfl
    have as2 : ∀ w : World, (Instr.typeAssert (.iface 25 (.int .u64 0)) 20 99 true).run Tryd.prog w = .ok (.tuple #[.int .u32 0, .bool false]) w := fun w => by kernel_rfl
    have as3 : ∀ w : World, (Instr.typeAssert (.iface 25 (.int .u64 0)) 20 57 true).run Tryd.prog w = .ok (.tuple #[.int .u64 0, .bool false]) w := fun w => by kernel_rfl
    have as4 : ∀ w : World, (Instr.typeAssert (.iface 25 (.int .u64 0)) 20 25 true).run Tryd.prog w = .ok (.tuple #[.int .u64 0, .bool true]) w := fun w => by kernel_rfl
    clear hA0 hsz h
    go_enter Tryd.func48, Tryd.ntmps48
    go_upto_region 11 with fail
    go_cut [] (fun wx => Hid (wx = ((w0.setCell ⟨tb, 0, none⟩ (.slice (some ⟨w0.heap.size, 0, none⟩) 64 64)).alloc (.cells A0 109))))
    case first =>
      go_wp2_with fail
      go_meet
      exact Lib.hid rfl
    case rest =>
      rw [hcut.out]
      refine (‹∀ (a : Act) (w_1 : World), Code.wp _ _ _ a w_1 → _› _ _ ?_)
      exact init12 w0 _ tb 64 (by omega) (by omega) HR.out _ _ _ _ _ _ _ _ _ _ _ _ _ _ _ _ _ _ _ _ _ _ _ _ _ _ _ _ _ _ _ _ _ _ _ _ _ _ _ _ _ _ _ _ _ _ _ _ _ _ _ _ _ _ _)
  go_enter Tryd.func31, Tryd.ntmps31
  go_wp2_with fail
  refine (HI.out _ _ (heap_alloc_new _ _)).mono ?_
  rintro e w1 ⟨rfl, lb, root, md, g1, g2, g3, g4⟩
  have HX : Hid (NewQ 64 w (.returned (pb w.heap.size)) w1) := Lib.hid ⟨w.heap.size, lb, root, md, rfl, g1, new_only ((Only.refl _ w).alloc _) g2 (fun k e => by have : k = w.heap.size := e; omega), fun k hk => by
    rcases g3 k hk with h | h
    · omega
    · have : w.heap.size + 1 ≤ k := by simpa using h
      omega, Nat.le_of_succ_le (by simpa using g4)⟩
  clear g1 g2 g3 g4
  go_wp2_with fail
  go_ret
  exact HX.out
end Go.Proofs.YtcjifjfcjimefaaDoor.xf

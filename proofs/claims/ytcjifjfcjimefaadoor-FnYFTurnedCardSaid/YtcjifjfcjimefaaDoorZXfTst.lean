/-
  spec's TRStep.
-/
import Derived.Test.YtcjifjfcjimefaaDoorZXfPut
namespace Go.Proofs.YtcjifjfcjimefaaDoor.xf
open Go.ChangeShapes Go.WideShapes Go.ChangeAt Go.RowKit Go.Proofs.YtcjifjfcjimefaaDoor.base Go.Proofs.YtcjifjfcjimefaaDoor.heap Go.Proofs.YtcjifjfcjimefaaDoor.rows Go.Proofs.YtcjifjfcjimefaaDoor.mapn
set_option linter.unusedVariables false

/-- a list of entries; the empty one is nil -/
structure Lst (w : World) (a : Option Addr) (n cap : Nat) (L : List It) : Prop where
  row : RS itc 2 w a n cap L
  nil : n = 0 → a = none ∧ cap = 0
  lt : ∀ k, At a k → k < w.heap.size
theorem Lst.still {w w' : World} {a : Option Addr} {n cap : Nat} {L : List It} (h : Lst w a n cap L) (hs : Same w w') : Lst w' a n cap L := ⟨h.row.still hs, h.nil, fun k hk => Nat.lt_of_lt_of_le (h.lt k hk) hs.size⟩
/-- what a step of spec's does -/
def Sted (told : Bool) (w : World) (a : Option Addr) (L : List It) (s : Stp) (e : Ending) (w' : World) : Prop :=
  ∃ (a' : Option Addr) (n' c' : Nat) (x : An), e = .returned (.tuple #[.slice a' n' c', .agg (anc x).toArray]) ∧ Lst w' a' n' c' (nxt L s) ∧ (∀ k, At a' k → At a k ∨ w.heap.size ≤ k) ∧ AnIn w' x ∧ ((s.op = 1 → told = false) → Says L s x) ∧ (∀ k, At x.a k → w.heap.size ≤ k ∧ k < w'.heap.size) ∧ Same w w'
/-- behind the first statements: the step, the result and the answer lie in blocks -/
structure Prp (w w3 : World) (g : Nat) (op : Int) (ia : Option Addr) (im ic : Nat) (ka : Option Addr) (kc : Nat) (xa : Option Addr) (xn xc num : Nat) (yes : Bool) : Prop where
  box : w3.heap[g]? = some (.cells #[.int .i64 op, .slice ia im ic, .slice ka 1 kc] 34 (0, 0))
  res : w3.heap[g + 1]? = some (.cells #[.slice none 0 0, .int .u64 0, .bool false] 55 (0, 0))
  ans : w3.heap[g + 2]? = some (.cells #[.slice xa xn xc, .int .u64 (num : Int), .bool yes] 55 (0, 0))
  same : Same w w3
  new : w.heap.size ≤ g
theorem Prp.still {w w3 w4 : World} {g : Nat} {op : Int} {ia ka xa : Option Addr} {im ic kc xn xc num : Nat} {yes : Bool} (h : Prp w w3 g op ia im ic ka kc xa xn xc num yes) (hs : Same w3 w4) : Prp w w4 g op ia im ic ka kc xa xn xc num yes := ⟨hs.obj h.box id, hs.obj h.res id, hs.obj h.ans id, h.same.trans hs, h.new⟩
theorem Prp.keep {w w3 w4 : World} {g : Nat} {op : Int} {ia ka xa : Option Addr} {im ic kc xn xc num : Nat} {yes : Bool} (h : Prp w w3 g op ia im ic ka kc xa xn xc num yes) {S : Nat → Prop} (hs : Only S w3 w4) (hn : ∀ k, S k → g + 2 < k) : Prp w w4 g op ia im ic ka kc xa xn xc num yes := ⟨hs.obj h.box (fun e => by have := hn _ e; omega), hs.obj h.res (fun e => by have := hn _ e; omega), hs.obj h.ans (fun e => by have := hn _ e; omega), new_only h.same hs (fun k e => by have := hn _ e; have := h.new; omega), h.new⟩
theorem Prp.put {w w3 : World} {g : Nat} {op : Int} {ia ka xa : Option Addr} {im ic kc xn xc num : Nat} {yes : Bool} (h : Prp w w3 g op ia im ic ka kc xa xn xc num yes) (ya : Option Addr) (yn yc num' : Nat) (yes' : Bool) (i : Nat) (v : Value) (hv : (#[.slice xa xn xc, .int .u64 (num : Int), .bool yes] : Array Value).setIfInBounds i v = #[.slice ya yn yc, .int .u64 (num' : Int), .bool yes']) : Prp w (w3.setCell ⟨g + 2, i, none⟩ v) g op ia im ic ka kc ya yn yc num' yes' := by
  have hO : Only (fun k => k = g + 2) w3 (w3.setCell ⟨g + 2, i, none⟩ v) := (Only.refl _ _).setCell ⟨g + 2, i, none⟩ _ (fun _ => rfl)
  have hn := h.new
  exact ⟨hO.obj h.box (fun e => by have e' : g = g + 2 := e; omega), hO.obj h.res (fun e => by have e' : g + 1 = g + 2 := e; omega), by rw [← hv]; exact setCell_heap h.ans i v, new_only h.same hO (fun k e => by have e' : k = g + 2 := e; omega), hn⟩
/-- the answer is the result -/
theorem Prp.fin {w w3 : World} {g : Nat} {op : Int} {ia ka xa : Option Addr} {im ic kc xn xc num : Nat} {yes : Bool} (h : Prp w w3 g op ia im ic ka kc xa xn xc num yes) (w4 : World) (h4 : w4 = (((w3.setCell ⟨g + 1, 0, none⟩ (.slice xa xn xc)).setCell ⟨g + 1, 1, none⟩ (.int .u64 (num : Int))).setCell ⟨g + 1, 2, none⟩ (.bool yes)).drew) :
    (w4.cell? ⟨g + 1, 0, none⟩ = some (.slice xa xn xc) ∧ w4.cell? ⟨g + 1, 1, none⟩ = some (.int .u64 (num : Int)) ∧ w4.cell? ⟨g + 1, 2, none⟩ = some (.bool yes)) ∧ Same w w4 ∧ Only (fun k => k = g + 1) w3 w4 := by
  have hO : Only (fun k => k = g + 1) w3 w4 := by rw [h4]; exact ((((Only.refl (fun k => k = g + 1) w3).setCell ⟨g + 1, 0, none⟩ _ (fun _ => rfl)).setCell ⟨g + 1, 1, none⟩ _ (fun _ => rfl)).setCell ⟨g + 1, 2, none⟩ _ (fun _ => rfl)).drew
  have hn := h.new
  have hb : w4.heap[g + 1]? = some (.cells #[.slice xa xn xc, .int .u64 (num : Int), .bool yes] 55 (0, 0)) := by
    rw [h4]
    exact setCell_heap (setCell_heap (setCell_heap h.res 0 _) 1 _) 2 _
  exact ⟨⟨block_cell hb rfl, block_cell hb rfl, block_cell hb rfl⟩, new_only h.same hO (fun k e => by have e' : k = g + 1 := e; omega), hO⟩
/-- an answer's row, behind the blocks -/
def Row1 (g : Nat) (w : World) (xa : Option Addr) (xn xc : Nat) (X : List It) : Prop := RS itc 2 w xa xn xc X ∧ ∀ k, At xa k → g + 2 < k ∧ k < w.heap.size
theorem Row1.keep {g : Nat} {w w' : World} {xa : Option Addr} {xn xc : Nat} {X : List It} (h : Row1 g w xa xn xc X) {S : Nat → Prop} (hs : Only S w w') (hn : ∀ k, S k → k ≤ g + 2) : Row1 g w' xa xn xc X := ⟨h.1.keep hs (fun k hk e => by have := (h.2 k hk).1; have := hn k e; omega), fun k hk => ⟨(h.2 k hk).1, Nat.lt_of_lt_of_le (h.2 k hk).2 hs.size⟩⟩
/-- one entry is said -/
theorem said1 {w w3 wk w9 : World} {g : Nat} {op : Int} {ia ka a2 : Option Addr} {im ic kc num c2 : Nat} {yes : Bool} {y : It} (h : Prp w w3 g op ia im ic ka kc none 0 0 num yes) (hs : Same w3 wk) (hG : Grew 43 2 wk w9 none a2 1 1 0 c2 (itc y)) :
    Prp w w9 g op ia im ic ka kc none 0 0 num yes ∧ Prp w (w9.setCell ⟨g + 2, 0, none⟩ (.slice a2 1 c2)) g op ia im ic ka kc a2 1 c2 num yes ∧ Row1 g (w9.setCell ⟨g + 2, 0, none⟩ (.slice a2 1 c2)) a2 1 c2 [y] := by
  have h9 : Same w3 w9 := Only.trans (S := fun _ => False) hs hG.only (fun _ _ h => h.elim)
  have hl := lt_of_heap h.ans
  have z := hs.size
  have hP := h.still h9
  have hfr : ∀ k, At a2 k → w3.heap.size ≤ k := fun k hk => by have := (hG.fresh k hk).resolve_left id; omega
  have hO : Only (fun k => k = g + 2) w9 (w9.setCell ⟨g + 2, 0, none⟩ (.slice a2 1 c2)) := (Only.refl _ _).setCell ⟨g + 2, 0, none⟩ _ (fun _ => rfl)
  have hOS : RS itc 2 w9 a2 1 c2 [y] := ⟨by have := hG.own.rd; simpa using this, rfl⟩
  exact ⟨hP, hP.put _ _ _ _ _ 0 _ rfl, hOS.keep hO (fun k hk e => by have := hfr k hk; have e' : k = g + 2 := e; omega), fun k hk => ⟨by have := hfr k hk; omega, Nat.lt_of_lt_of_le (hG.own.lt k hk) hO.size⟩⟩
theorem fnd_is {L : List It} (ha : Asc L) (k : Nat) : (fnd L k).isSome = has L k := by
  rw [fnd_has ha]
  cases h : has L k with
  | false => rfl
  | true =>
    have := has_lt h
    rw [if_pos rfl, List.getElem?_eq_getElem this]
    rfl
set_option maxRecDepth 100000 in
set_option maxHeartbeats 1600000 in
theorem trStep5 (told : Bool) (a : Option Addr) (n cap : Nat) (L : List It) (ia : Option Addr) (im ic : Nat) (I : List It) (b off kc : Nat) (key : Nat) (w : World) (h : Lst w a n cap L) (hk : RL uv w (some ⟨b, off, none⟩) 1 kc [key]) (hn : n ≤ 1000000) (hA : Asc L) :
    Calls Tryd.prog 18 #[.slice a n cap, .agg #[.int .i64 5, .slice ia im ic, .slice (some ⟨b, off, none⟩) 1 kc], .bool told] w (Sted told w a L ⟨5, ia, im, ic, I, some ⟨b, off, none⟩, 1, kc, [key]⟩) := by
  have HL := Lib.hid h
  have bd := h.row.bound
  have hln := h.row.2
  obtain ⟨b', off', ha, hb, hc⟩ := hk.at (by omega)
  cases ha
  have c0 : w.cell? ⟨b, off, none⟩ = some (.int .u64 (key : Int)) := hc 0 key rfl
  have HC := Lib.hid (And.intro hb c0)
  clear h hk hc c0
  go_enter Tryd.func18, Tryd.ntmps18
  go_upto_region 3 with fail
  obtain ⟨w3, hw3⟩ : ∃ w3, (((w.alloc (.cells #[.int .i64 5, .slice ia im ic, .slice (some ⟨b, off, none⟩) 1 kc] 34)).alloc (.cells #[.slice none 0 0, .int .u64 0, .bool false] 55)).alloc (.cells #[.slice none 0 0, .int .u64 0, .bool false] 55)) = w3 := ⟨_, rfl⟩
  obtain ⟨g, hg⟩ : ∃ g, w.heap.size = g := ⟨_, rfl⟩
  have HP : Hid (Prp w w3 g 5 ia im ic (some ⟨b, off, none⟩) kc none 0 0 0 false) := Lib.hid (by
    rw [← hw3, ← hg]
    exact ⟨((Only.refl (fun _ => False) _).alloc _ |>.alloc _).obj (heap_alloc_new _ _) id, ((Only.refl (fun _ => False) _).alloc _).obj (heap_alloc_new' _ _ _ (by simp)) id, heap_alloc_new' _ _ _ (by simp), (((Only.refl _ _).alloc _).alloc _).alloc _, Nat.le_refl _⟩)
  rw [hw3]
  simp only [hg]
  clear hw3 hg hb
  have b0 : w3.cell? ⟨g, 0, none⟩ = some (.int .i64 5) := block_cell HP.out.box rfl
  have b1 : w3.cell? ⟨g, 1, none⟩ = some (.slice ia im ic) := block_cell HP.out.box rfl
  have b2 : w3.cell? ⟨g, 2, none⟩ = some (.slice (some ⟨b, off, none⟩) 1 kc) := block_cell HP.out.box rfl
  have c3 : w3.cell? ⟨b, off, none⟩ = some (.int .u64 (key : Int)) := (HP.out.same.cell (p := ⟨b, off, none⟩) HC.out.1 id).trans HC.out.2
  have lg : g < w3.heap.size := lt_of_heap HP.out.box
  have lg2 : g + 2 < w3.heap.size := lt_of_heap HP.out.ans
  have lb3 : b < w3.heap.size := Nat.lt_of_lt_of_le HC.out.1 HP.out.same.size
  have e0 : w3.cell? ⟨g + 2, 0, none⟩ = some (.slice none 0 0) := block_cell HP.out.ans rfl
  have e1 : w3.cell? ⟨g + 2, 1, none⟩ = some (.int .u64 (0 : Int)) := block_cell HP.out.ans rfl
  have e2 : w3.cell? ⟨g + 2, 2, none⟩ = some (.bool false) := block_cell HP.out.ans rfl
  have f2 : ∀ i, w3.frozen? ⟨g + 2, i, none⟩ = false := fun i => block_free HP.out.ans
  have r0 : w3.cell? ⟨g + 1, 0, none⟩ = some (.slice none 0 0) := block_cell HP.out.res rfl
  have r1 : w3.cell? ⟨g + 1, 1, none⟩ = some (.int .u64 0) := block_cell HP.out.res rfl
  have r2 : w3.cell? ⟨g + 1, 2, none⟩ = some (.bool false) := block_cell HP.out.res rfl
  have f1 : ∀ i, w3.frozen? ⟨g + 1, i, none⟩ = false := fun i => block_free HP.out.res
  have lg1 : g + 1 < w3.heap.size := lt_of_heap HP.out.res
  go_upto_region 28 with fail
  obtain ⟨w8, hw8⟩ : ∃ w8, w3.setCell ⟨g + 1 + 1, 1, none⟩ (.int .u64 (n : Int)) = w8 := ⟨_, rfl⟩
  have HP8 : Hid (Prp w w8 g 5 ia im ic (some ⟨b, off, none⟩) kc none 0 0 n false) := Lib.hid (by rw [← hw8]; exact HP.out.put none 0 0 n false 1 _ rfl)
  rw [hw8]
  clear hw8 b0 b1 b2 c3 lg lb3 e0 e1 e2 f2 r0 r1 r2 f1 lg1 lg2
  have e0 : w8.cell? ⟨g + 2, 0, none⟩ = some (.slice none 0 0) := block_cell HP8.out.ans rfl
  have e1 : w8.cell? ⟨g + 2, 1, none⟩ = some (.int .u64 (n : Int)) := block_cell HP8.out.ans rfl
  have e2 : w8.cell? ⟨g + 2, 2, none⟩ = some (.bool false) := block_cell HP8.out.ans rfl
  have f2 : ∀ i, w8.frozen? ⟨g + 2, i, none⟩ = false := fun i => block_free HP8.out.ans
  have r0 : w8.cell? ⟨g + 1, 0, none⟩ = some (.slice none 0 0) := block_cell HP8.out.res rfl
  have r1 : w8.cell? ⟨g + 1, 1, none⟩ = some (.int .u64 0) := block_cell HP8.out.res rfl
  have r2 : w8.cell? ⟨g + 1, 2, none⟩ = some (.bool false) := block_cell HP8.out.res rfl
  have f1 : ∀ i, w8.frozen? ⟨g + 1, i, none⟩ = false := fun i => block_free HP8.out.res
  have lg1 : g + 1 < w8.heap.size := lt_of_heap HP8.out.res
  have lg2 : g + 2 < w8.heap.size := lt_of_heap HP8.out.ans
  go_region
  obtain ⟨w9, hw9⟩ : ∃ w9, (((w8.setCell ⟨g + 1, 0, none⟩ (.slice none 0 0)).setCell ⟨g + 1, 1, none⟩ (.int .u64 (n : Int))).setCell ⟨g + 1, 2, none⟩ (.bool false)).drew = w9 := ⟨_, rfl⟩
  have HF := Lib.hid (HP8.out.fin w9 hw9.symm)
  rw [hw9]
  obtain ⟨y0, y1, y2⟩ := HF.out.1
  clear hw9 e0 e1 e2 f2 r0 r1 r2 f1 lg1 lg2
  go_wp2_with fail
  refine bodyPost_ret (v := .tuple #[.slice a n cap, .agg #[.slice none 0 0, .int .u64 (n : Int), .bool false]]) ?_ rfl ?_
  · simp [results, Tryd.results18, go_sem, y0, y1, y2]
  exact ⟨a, n, cap, ⟨none, 0, 0, [], n, false⟩, rfl, by simp only [nxt]; exact HL.out.still HF.out.2.1, fun k hk => .inl hk, RS.nil _ _ _, fun _ => ⟨by simp [sayL], by simp [sayN, hln], by simp [sayY]⟩, fun k hk => hk.elim, HF.out.2.1⟩
set_option maxRecDepth 100000 in
set_option maxHeartbeats 1600000 in
theorem trStep3 (told : Bool) (a : Option Addr) (n cap : Nat) (L : List It) (ia : Option Addr) (im ic : Nat) (I : List It) (b off kc : Nat) (key : Nat) (w : World) (h : Lst w a n cap L) (hk : RL uv w (some ⟨b, off, none⟩) 1 kc [key]) (hn : n ≤ 1000000) (hA : Asc L) :
    Calls Tryd.prog 18 #[.slice a n cap, .agg #[.int .i64 3, .slice ia im ic, .slice (some ⟨b, off, none⟩) 1 kc], .bool told] w (Sted told w a L ⟨3, ia, im, ic, I, some ⟨b, off, none⟩, 1, kc, [key]⟩) := by
  obtain ⟨hs, hhs⟩ : ∃ hs, has L key = hs := ⟨_, rfl⟩
  have HH : Hid (∀ wx, Same w wx → Calls Tryd.prog 41 #[.slice a n cap, .int .u64 (key : Int)] wx (SayP (.bool hs) wx)) := Lib.hid (fun wx hx => by rw [← hhs]; exact trHas_of wx a n cap L key (h.row.still hx))
  obtain ⟨j, hj⟩ : ∃ j, pos L key = j := ⟨_, rfl⟩
  have HFD : Hid (∀ wx, Same w wx → Calls Tryd.prog 42 #[.slice a n cap, .int .u64 (key : Int)] wx (SayP (.int .i64 (j : Int)) wx)) := Lib.hid (fun wx hx => by rw [← hj]; exact trFind_of wx a n cap L key (h.row.still hx))
  have HFI : Hid (fnd L key = if hs then L[j]? else none) := Lib.hid (by rw [fnd_has hA, hhs, hj])
  have HJ : Hid (hs = true → j < L.length) := Lib.hid (fun e => by rw [← hj]; exact has_lt (hhs.trans e))
  clear hhs hj
  have HL := Lib.hid h
  have bd := h.row.bound
  have hln := h.row.2
  obtain ⟨b', off', ha, hb, hc⟩ := hk.at (by omega)
  cases ha
  have c0 : w.cell? ⟨b, off, none⟩ = some (.int .u64 (key : Int)) := hc 0 key rfl
  have HC := Lib.hid (And.intro hb c0)
  clear h hk hc c0
  go_enter Tryd.func18, Tryd.ntmps18
  go_upto_region 3 with fail
  obtain ⟨w3, hw3⟩ : ∃ w3, (((w.alloc (.cells #[.int .i64 3, .slice ia im ic, .slice (some ⟨b, off, none⟩) 1 kc] 34)).alloc (.cells #[.slice none 0 0, .int .u64 0, .bool false] 55)).alloc (.cells #[.slice none 0 0, .int .u64 0, .bool false] 55)) = w3 := ⟨_, rfl⟩
  obtain ⟨g, hg⟩ : ∃ g, w.heap.size = g := ⟨_, rfl⟩
  have HP : Hid (Prp w w3 g 3 ia im ic (some ⟨b, off, none⟩) kc none 0 0 0 false) := Lib.hid (by
    rw [← hw3, ← hg]
    exact ⟨((Only.refl (fun _ => False) _).alloc _ |>.alloc _).obj (heap_alloc_new _ _) id, ((Only.refl (fun _ => False) _).alloc _).obj (heap_alloc_new' _ _ _ (by simp)) id, heap_alloc_new' _ _ _ (by simp), (((Only.refl _ _).alloc _).alloc _).alloc _, Nat.le_refl _⟩)
  rw [hw3]
  simp only [hg]
  clear hw3 hg hb
  have b0 : w3.cell? ⟨g, 0, none⟩ = some (.int .i64 3) := block_cell HP.out.box rfl
  have b1 : w3.cell? ⟨g, 1, none⟩ = some (.slice ia im ic) := block_cell HP.out.box rfl
  have b2 : w3.cell? ⟨g, 2, none⟩ = some (.slice (some ⟨b, off, none⟩) 1 kc) := block_cell HP.out.box rfl
  have c3 : w3.cell? ⟨b, off, none⟩ = some (.int .u64 (key : Int)) := (HP.out.same.cell (p := ⟨b, off, none⟩) HC.out.1 id).trans HC.out.2
  have lg : g < w3.heap.size := lt_of_heap HP.out.box
  have lg2 : g + 2 < w3.heap.size := lt_of_heap HP.out.ans
  have lb3 : b < w3.heap.size := Nat.lt_of_lt_of_le HC.out.1 HP.out.same.size
  have e0 : w3.cell? ⟨g + 2, 0, none⟩ = some (.slice none 0 0) := block_cell HP.out.ans rfl
  have e1 : w3.cell? ⟨g + 2, 1, none⟩ = some (.int .u64 (0 : Int)) := block_cell HP.out.ans rfl
  have e2 : w3.cell? ⟨g + 2, 2, none⟩ = some (.bool false) := block_cell HP.out.ans rfl
  have f2 : ∀ i, w3.frozen? ⟨g + 2, i, none⟩ = false := fun i => block_free HP.out.ans
  have r0 : w3.cell? ⟨g + 1, 0, none⟩ = some (.slice none 0 0) := block_cell HP.out.res rfl
  have r1 : w3.cell? ⟨g + 1, 1, none⟩ = some (.int .u64 0) := block_cell HP.out.res rfl
  have r2 : w3.cell? ⟨g + 1, 2, none⟩ = some (.bool false) := block_cell HP.out.res rfl
  have f1 : ∀ i, w3.frozen? ⟨g + 1, i, none⟩ = false := fun i => block_free HP.out.res
  have lg1 : g + 1 < w3.heap.size := lt_of_heap HP.out.res
  go_wp2_with fail
  refine (HH.out w3 HP.out.same).mono ?_
  rintro e w4 ⟨rfl, hs4⟩
  have HP4 := Lib.hid (HP.out.still hs4)
  clear hs4 b0 b1 b2 c3 lg lb3 e0 e1 e2 f2 r0 r1 r2 f1 lg1 lg2 HP
  have b0 : w4.cell? ⟨g, 0, none⟩ = some (.int .i64 3) := block_cell HP4.out.box rfl
  have lg : g < w4.heap.size := lt_of_heap HP4.out.box
  have lg2 : g + 2 < w4.heap.size := lt_of_heap HP4.out.ans
  have e0 : w4.cell? ⟨g + 2, 0, none⟩ = some (.slice none 0 0) := block_cell HP4.out.ans rfl
  have e1 : w4.cell? ⟨g + 2, 1, none⟩ = some (.int .u64 (0 : Int)) := block_cell HP4.out.ans rfl
  have e2 : w4.cell? ⟨g + 2, 2, none⟩ = some (.bool false) := block_cell HP4.out.ans rfl
  have f2 : ∀ i, w4.frozen? ⟨g + 2, i, none⟩ = false := fun i => block_free HP4.out.ans
  have r0 : w4.cell? ⟨g + 1, 0, none⟩ = some (.slice none 0 0) := block_cell HP4.out.res rfl
  have r1 : w4.cell? ⟨g + 1, 1, none⟩ = some (.int .u64 0) := block_cell HP4.out.res rfl
  have r2 : w4.cell? ⟨g + 1, 2, none⟩ = some (.bool false) := block_cell HP4.out.res rfl
  have f1 : ∀ i, w4.frozen? ⟨g + 1, i, none⟩ = false := fun i => block_free HP4.out.res
  have lg1 : g + 1 < w4.heap.size := lt_of_heap HP4.out.res
  cases hs with
  | false =>
    go_upto_region 28 with fail
    obtain ⟨w8, hw8⟩ : ∃ w8, w4 = w8 := ⟨_, rfl⟩
    have HP8 : Hid (Prp w w8 g 3 ia im ic (some ⟨b, off, none⟩) kc none 0 0 0 false) := Lib.hid (by rw [← hw8]; exact HP4.out)
    rw [hw8]
    clear hw8 b0 lg e0 e1 e2 f2 r0 r1 r2 f1 lg1 lg2
    have e0 : w8.cell? ⟨g + 2, 0, none⟩ = some (.slice none 0 0) := block_cell HP8.out.ans rfl
    have e1 : w8.cell? ⟨g + 2, 1, none⟩ = some (.int .u64 (0 : Int)) := block_cell HP8.out.ans rfl
    have e2 : w8.cell? ⟨g + 2, 2, none⟩ = some (.bool false) := block_cell HP8.out.ans rfl
    have f2 : ∀ i, w8.frozen? ⟨g + 2, i, none⟩ = false := fun i => block_free HP8.out.ans
    have r0 : w8.cell? ⟨g + 1, 0, none⟩ = some (.slice none 0 0) := block_cell HP8.out.res rfl
    have r1 : w8.cell? ⟨g + 1, 1, none⟩ = some (.int .u64 0) := block_cell HP8.out.res rfl
    have r2 : w8.cell? ⟨g + 1, 2, none⟩ = some (.bool false) := block_cell HP8.out.res rfl
    have f1 : ∀ i, w8.frozen? ⟨g + 1, i, none⟩ = false := fun i => block_free HP8.out.res
    have lg1 : g + 1 < w8.heap.size := lt_of_heap HP8.out.res
    have lg2 : g + 2 < w8.heap.size := lt_of_heap HP8.out.ans
    go_region
    obtain ⟨w9, hw9⟩ : ∃ w9, (((w8.setCell ⟨g + 1, 0, none⟩ (.slice none 0 0)).setCell ⟨g + 1, 1, none⟩ (.int .u64 (0 : Int))).setCell ⟨g + 1, 2, none⟩ (.bool false)).drew = w9 := ⟨_, rfl⟩
    have HF := Lib.hid (HP8.out.fin w9 hw9.symm)
    rw [hw9]
    obtain ⟨y0, y1, y2⟩ := HF.out.1
    clear hw9 e0 e1 e2 f2 r0 r1 r2 f1 lg1 lg2
    go_wp2_with fail
    refine bodyPost_ret (v := .tuple #[.slice a n cap, .agg #[.slice none 0 0, .int .u64 (0 : Int), .bool false]]) ?_ rfl ?_
    · simp [results, Tryd.results18, go_sem, y0, y1, y2]
    exact ⟨a, n, cap, ⟨none, 0, 0, [], 0, false⟩, rfl, by simp only [nxt]; exact HL.out.still HF.out.2.1, fun k hk => .inl hk, RS.nil _ _ _, fun _ => ⟨by simp [sayL, HFI.out], by simp [sayN], by simp [sayY]⟩, fun k hk => hk.elim, HF.out.2.1⟩
  | true =>
    have hjn : j < n := by have := HJ.out rfl; omega
    have hn1 : (0 : Int) < (n : Int) := by omega
    have hw1 : IntKind.i64.wrap ((n : Int) - 1) = (n : Int) - 1 := IntWalk.i64_in _ (by omega)
    have hw2 : (0 : Int) ≤ (n : Int) - 1 := by omega
    have hw4 : (n : Int) - 1 < (n : Int) := by omega
    have hw4 : ((n : Int) - 1).toNat = n - 1 := by omega
    have hw5 : (1 : Int) ≤ (n : Int) := by omega
    obtain ⟨y, hy⟩ := HL.out.row.get (by omega : j < n)
    have HY : Hid (L[j]? = some y) := Lib.hid (by exact hy)
    obtain ⟨b', off', ha, hb', hc⟩ := (HL.out.row.still HP4.out.same).at itc_len (by omega)
    have d0 : w4.cell? ⟨b', off' + j * 2, none⟩ = some (.int .u64 (y.1 : Int)) := by simpa using hc (j) y hy 0 _ rfl
    have d1 : w4.cell? ⟨b', off' + j * 2 + 1, none⟩ = some (.int .i64 y.2) := by simpa using hc (j) y hy 1 _ rfl
    subst ha
    clear hc hy
    go_upto_region 15 with fail
    have HKW : Hid (∀ wx, Same w4 wx → (wx.cell? ⟨b', off' + j * 2, none⟩ = some (.int .u64 (y.1 : Int)) ∧ wx.cell? ⟨b', off' + j * 2 + 1, none⟩ = some (.int .i64 y.2)) ∧ wx.cell? ⟨g + 2, 0, none⟩ = some (.slice none 0 0) ∧ b' < wx.heap.size ∧ g + 2 < wx.heap.size) := Lib.hid (fun wx hx => ⟨⟨(hx.cell (p := ⟨b', off' + j * 2, none⟩) hb' id).trans d0, (hx.cell (p := ⟨b', off' + j * 2 + 1, none⟩) hb' id).trans d1⟩, block_cell (hx.obj HP4.out.ans id) rfl, Nat.lt_of_lt_of_le hb' hx.size, Nat.lt_of_lt_of_le (lt_of_heap HP4.out.ans) hx.size⟩)
    go_region_law (first
      | ((with_reducible show (ite _ (Oper.wp _ _ _ (World.drew w4) _ _) _)); (go_simp); go_at_call 42; (with_reducible refine (HFD.out _ (HP4.out.same.trans (Only.refl _ _).drew)).mono ?_); rintro e wy ⟨rfl, hsy⟩; have HSY : Hid (Same w4 wy) := Lib.hid ((Only.refl (fun _ => False) w4).drew.trans hsy (fun _ _ h => h)); obtain ⟨⟨dy0, dy1⟩, ey0, ly0, ly1⟩ := HKW.out wy HSY.out; clear hsy)
      | (refine step_app 1 (itc y) (by rfl) _ _ _ _ (by rfl) slIt ?_ (Go.Proofs.YtcjifjfcjimefaaDoor.heap.Own.nil _ _ _) ?_ (Src.row (size := 2) (cs := #[.int .u64 (y.1 : Int), .int .i64 y.2]) (t := 43) (fr := (0, 0)) Tryd.underlying22 (show (wy.alloc (.cells #[.int .u64 (y.1 : Int), .int .i64 y.2] 43)).heap[wy.heap.size]? = _ from heap_alloc_new wy _) 1 1 rfl (by simp [Value.oneCell'])) rfl rfl (by unfold maxLen; omega) (by omega) ?_; (go_simp); (go_simp); intro a2 c2 w5 hG; have HQ := Lib.hid (said1 HP4.out (HSY.out.trans ((Only.refl _ _).alloc _)) hG); have e5 : w5.cell? ⟨g + 2, 0, none⟩ = some (.slice none 0 0) := block_cell HQ.out.1.ans rfl; have f5 : w5.frozen? ⟨g + 2, 0, none⟩ = false := block_free HQ.out.1.ans; have l5 := lt_of_heap HQ.out.1.ans; clear hG)
      | fail)
    all_goals
      obtain ⟨w6, hw6⟩ : ∃ w6, (w5.setCell ⟨g + 1 + 1, 0, none⟩ (.slice a2 1 c2)) = w6 := ⟨_, rfl⟩
      have HP6 : Hid (Prp w w6 g 3 ia im ic (some ⟨b, off, none⟩) kc a2 1 c2 0 false) := Lib.hid (by rw [← hw6]; exact HQ.out.2.1)
      have HR6 : Hid (Row1 g w6 a2 1 c2 [y]) := Lib.hid (by rw [← hw6]; exact HQ.out.2.2)
      rw [hw6]
      clear hw6 HQ e5 f5 l5 d0 d1 hb' b0 lg e0 e1 e2 f2 r0 r1 r2 f1 lg1 lg2 HP4
      have b0 : w6.cell? ⟨g, 0, none⟩ = some (.int .i64 3) := block_cell HP6.out.box rfl
      have lg : g < w6.heap.size := lt_of_heap HP6.out.box
      go_upto_region 28 with fail
      obtain ⟨w8, hw8⟩ : ∃ w8, w6 = w8 := ⟨_, rfl⟩
      have HP8 : Hid (Prp w w8 g 3 ia im ic (some ⟨b, off, none⟩) kc a2 1 c2 0 false) := Lib.hid (by rw [← hw8]; exact HP6.out)
      have HR8 : Hid (Row1 g w8 a2 1 c2 [y]) := Lib.hid (by rw [← hw8]; exact HR6.out)
      rw [hw8]
      clear hw8 b0 lg
      have e0 : w8.cell? ⟨g + 2, 0, none⟩ = some (.slice a2 1 c2) := block_cell HP8.out.ans rfl
      have e1 : w8.cell? ⟨g + 2, 1, none⟩ = some (.int .u64 (0 : Int)) := block_cell HP8.out.ans rfl
      have e2 : w8.cell? ⟨g + 2, 2, none⟩ = some (.bool false) := block_cell HP8.out.ans rfl
      have f2 : ∀ i, w8.frozen? ⟨g + 2, i, none⟩ = false := fun i => block_free HP8.out.ans
      have r0 : w8.cell? ⟨g + 1, 0, none⟩ = some (.slice none 0 0) := block_cell HP8.out.res rfl
      have r1 : w8.cell? ⟨g + 1, 1, none⟩ = some (.int .u64 0) := block_cell HP8.out.res rfl
      have r2 : w8.cell? ⟨g + 1, 2, none⟩ = some (.bool false) := block_cell HP8.out.res rfl
      have f1 : ∀ i, w8.frozen? ⟨g + 1, i, none⟩ = false := fun i => block_free HP8.out.res
      have lg1 : g + 1 < w8.heap.size := lt_of_heap HP8.out.res
      have lg2 : g + 2 < w8.heap.size := lt_of_heap HP8.out.ans
      go_region
      obtain ⟨w9, hw9⟩ : ∃ w9, (((w8.setCell ⟨g + 1, 0, none⟩ (.slice a2 1 c2)).setCell ⟨g + 1, 1, none⟩ (.int .u64 (0 : Int))).setCell ⟨g + 1, 2, none⟩ (.bool false)).drew = w9 := ⟨_, rfl⟩
      have HF := Lib.hid (HP8.out.fin w9 hw9.symm)
      rw [hw9]
      obtain ⟨y0, y1, y2⟩ := HF.out.1
      clear hw9 e0 e1 e2 f2 r0 r1 r2 f1 lg1 lg2
      go_wp2_with fail
      refine bodyPost_ret (v := .tuple #[.slice (some ⟨b', off', none⟩) n cap, .agg #[.slice a2 1 c2, .int .u64 (0 : Int), .bool false]]) ?_ rfl ?_
      · simp [results, Tryd.results18, go_sem, y0, y1, y2]
      exact ⟨_, n, cap, ⟨a2, 1, c2, [y], 0, false⟩, rfl, by simp only [nxt]; exact HL.out.still HF.out.2.1, fun k hk => .inl hk, (HR8.out.keep HF.out.2.2 (fun k e => by have e' : k = g + 1 := e; omega)).1, fun _ => ⟨by simp [sayL, HFI.out, HY.out], by simp [sayN], by simp [sayY]⟩, fun k hk => ⟨by have := (HR8.out.2 k hk).1; have := HP8.out.new; omega, Nat.lt_of_lt_of_le (HR8.out.2 k hk).2 HF.out.2.2.size⟩, HF.out.2.1⟩
end Go.Proofs.YtcjifjfcjimefaaDoor.xf

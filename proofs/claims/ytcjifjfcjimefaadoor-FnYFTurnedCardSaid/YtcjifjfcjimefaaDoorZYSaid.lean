/-
  impl's yfSaid, entry.
-/
import Derived.Test.YtcjifjfcjimefaaDoorZYNew
import Derived.Test.YtcjifjfcjimefaaDoorZXfInv
import Derived.Test.YtcjifjfcjimefaaDoorZXfItems
namespace Go.Proofs.YtcjifjfcjimefaaDoor.yf
open Go.RowKit Go.Proofs.YtcjifjfcjimefaaDoor.base Go.Proofs.YtcjifjfcjimefaaDoor.heap Go.Proofs.YtcjifjfcjimefaaDoor.rows
open Go.Proofs.YtcjifjfcjimefaaDoor.xf hiding Own Tr Tr.keep Tr.still insertC getC lenC insertsC newC PutP Gone FreshP
set_option linter.unusedVariables false

theorem assertE (y : It) (w : World) : (Instr.typeAssert (.iface 66 (.agg #[.int .u64 (y.1 : Int), .int .i64 y.2])) 73 66 true).run Tryd.prog w = .ok (.tuple #[.agg #[.int .u64 (y.1 : Int), .int .i64 y.2], .bool true]) w := by
  simp [Instr.typeAssert, run_underlying Tryd.underlying66, Result.andThen]
theorem assertEN (w : World) : (Instr.typeAssert .nilIface 73 66 true).run Tryd.prog w = .ok (.tuple #[.agg #[.int .u64 0, .int .i64 0], .bool false]) w := by kernel_rfl
theorem assertI (k : Nat) (v : Int) (w : World) : (Instr.typeAssert (.iface 66 (.agg #[.int .u64 (k : Int), .int .i64 v])) 20 66 true).run Tryd.prog w = .ok (.tuple #[.agg #[.int .u64 (k : Int), .int .i64 v], .bool true]) w := by
  simp [Instr.typeAssert, run_underlying Tryd.underlying66, Result.andThen]
theorem assertN (w : World) : (Instr.typeAssert .nilIface 20 66 true).run Tryd.prog w = .ok (.tuple #[.agg #[.int .u64 0, .int .i64 0], .bool false]) w := by kernel_rfl
/-- in the course of it -/
structure Yi (w wr : World) (g : Nat) (xa : Option Addr) (xn xc : Nat) (X : List It) : Prop where
  res : wr.heap[g]? = some (.cells #[.slice none 0 0, .int .u64 0, .bool false] 55 (0, 0))
  ans : wr.heap[g + 1]? = some (.cells #[.slice xa xn xc, .int .u64 0, .bool false] 55 (0, 0))
  same : Same w wr
  new : w.heap.size ≤ g
  row : OS 43 itc 2 wr xa xn xc X
  xnew : ∀ k, At xa k → g + 1 < k
theorem Yi.still {w wr wk : World} {g : Nat} {xa : Option Addr} {xn xc : Nat} {X : List It} (h : Yi w wr g xa xn xc X) (hs : Same wr wk) : Yi w wk g xa xn xc X := ⟨hs.obj h.res id, hs.obj h.ans id, h.same.trans hs, h.new, h.row.still hs, h.xnew⟩
theorem Yi.step {w wr wk w8 : World} {g : Nat} {xa a2 : Option Addr} {xn xc c2 : Nat} {X : List It} {y : It} (h : Yi w wr g xa xn xc X) (hs : Same wr wk) (hG : Grew 43 2 wk w8 xa a2 1 (xn + 1) xc c2 (X.flatMap itc ++ itc y)) :
    w8.heap[g + 1]? = some (.cells #[.slice xa xn xc, .int .u64 0, .bool false] 55 (0, 0)) ∧ Yi w (w8.setCell ⟨g + 1, 0, none⟩ (.slice a2 (xn + 1) c2)) g a2 (xn + 1) c2 (X ++ [y]) := by
  have hl := lt_of_heap h.ans
  have z := hs.size
  have b8 := hG.only.obj (hs.obj h.ans id) (fun e => by have := h.xnew _ e; omega)
  have r8 := hG.only.obj (hs.obj h.res id) (fun e => by have := h.xnew _ e; omega)
  have hO : Only (fun k => k = g + 1) w8 (w8.setCell ⟨g + 1, 0, none⟩ (.slice a2 (xn + 1) c2)) := (Only.refl _ _).setCell ⟨g + 1, 0, none⟩ _ (fun _ => rfl)
  have hn : ∀ k, At a2 k → g + 1 < k := fun k hk => by
    rcases hG.fresh k hk with h' | h'
    · exact h.xnew k h'
    · omega
  have hgn := h.new
  refine ⟨b8, hO.obj r8 (fun e => by have e' : g = g + 1 := e; omega), setCell_heap b8 0 _, new_only (new_only (h.same.trans hs) hG.only (fun k hk => by have := h.xnew k hk; omega)) hO (fun k e => by have e' : k = g + 1 := e; omega), hgn, ⟨?_, by rw [List.length_append, h.row.2]; rfl⟩, hn⟩
  rw [flat_snoc]
  exact hG.own.keep hO (fun k hk e => by have := hn k hk; have e' : k = g + 1 := e; omega)
/-- an answer of entries -/
def SaidP (w : World) (e : Ending) (w' : World) : Prop := ∃ xa xn xc X, e = .returned (.agg #[.slice xa xn xc, .int .u64 0, .bool false]) ∧ RS itc 2 w' xa xn xc X ∧ Same w w' ∧ ∀ k, At xa k → w.heap.size ≤ k ∧ k < w'.heap.size
set_option maxRecDepth 100000 in
set_option maxHeartbeats 1600000 in
theorem yfSaid_of (w : World) (a : Option Addr) (n cap : Nat) (R : List (Option It)) (h : RL ansE w a n cap R) (hn : n ≤ 1000) : Calls Tryd.prog 22 #[.slice a n cap] w (SaidP w) := by
  have HR := Lib.hid h
  have bd := h.bound
  have hln := h.2
  have haN := assertEN
  clear h
  go_enter Tryd.func22, Tryd.ntmps22
  go_upto_region 2 with fail
  obtain ⟨w3, hw3⟩ : ∃ w3, ((w.alloc (.cells #[.slice none 0 0, .int .u64 0, .bool false] 55)).alloc (.cells #[.slice none 0 0, .int .u64 0, .bool false] 55)) = w3 := ⟨_, rfl⟩
  obtain ⟨g, hg⟩ : ∃ g, w.heap.size = g := ⟨_, rfl⟩
  have HY0 : Hid (Yi w w3 g none 0 0 []) := Lib.hid (by
    rw [← hw3, ← hg]
    exact ⟨((Only.refl (fun _ => False) _).alloc _).obj (heap_alloc_new _ _) id, heap_alloc_new' _ _ _ (by simp), ((Only.refl _ _).alloc _).alloc _, Nat.le_refl _, OS.nil _ _ _ _, fun k hk => hk.elim⟩)
  rw [hw3]
  simp only [hg]
  clear hw3 hg
  go_wp2_with fail
  go_loopw [10] (fun i wr => ∃ (j : Nat) (xa : Option Addr) (xn xc : Nat) (X : List It), i = .int .i64 (j : Int) ∧ j ≤ n ∧ xn ≤ j ∧ Hid (Yi w wr g xa xn xc X)) (fun i _ => n - (intOf i).toNat)
  case atStart => exact ⟨0, none, 0, 0, [], rfl, Nat.zero_le _, Nat.le_refl _, HY0⟩
  case round =>
    clear HY0
    obtain ⟨j, xa, xn, xc, X, rfl, hj, hxj, HY⟩ := hrel
    have hbx := HY.out.row.bound
    by_cases hlt : j < n
    · have hlt' : (j : Int) < (n : Int) := by omega
      obtain ⟨y, hy⟩ := HR.out.get hlt
      obtain ⟨b, off, ha, hb, hc⟩ := (HR.out.still HY.out.same).at (by omega)
      have hcj := hc j y hy
      have s1 : wr.cell? ⟨g + 1, 0, none⟩ = some (.slice xa xn xc) := block_cell HY.out.ans rfl
      have lg := lt_of_heap HY.out.ans
      subst ha
      clear hc hy
      cases y with
      | none =>
        have c0 : wr.cell? ⟨b, off + j, none⟩ = some .nilIface := hcj
        clear hcj
        go_wp2_with fail
        go_roundw
        case rel => exact ⟨j + 1, xa, xn, xc, X, by go_num, by omega, by omega, Lib.hid (HY.out.still (by repeat (first | exact Only.refl _ _ | apply Only.alloc | apply Only.drew)))⟩
        case measure => simp [intOf]; omega
      | some z =>
        have c0 : wr.cell? ⟨b, off + j, none⟩ = some (.iface 66 (.agg #[.int .u64 (z.1 : Int), .int .i64 z.2])) := hcj
        have haE := assertE z
        clear hcj
        go_wp2_with (at_builtin; refine wpList_append (xn + 1) (X.flatMap itc ++ [.int .u64 (z.1 : Int), .int .i64 z.2]) rfl _ _ _ _ rfl slIt rfl (HY.out.row.1.keep (S := fun _ => False) (by repeat (first | exact Only.refl _ _ | apply Only.alloc | apply Only.drew)) (fun _ _ => id)) rfl (Src.row (size := 2) (cs := #[.int .u64 (z.1 : Int), .int .i64 z.2]) (t := 43) (fr := (0, 0)) Tryd.underlying22 (by exact heap_alloc_new' _ _ _ (by simp)) 1 1 rfl (by simp [Value.oneCell'])) rfl rfl (by unfold maxLen; omega) (by omega) ?_)
        intro a2 c2 w8 hG
        have hST := HY.out.step (y := z) (by repeat (first | exact Only.refl _ _ | apply Only.alloc | apply Only.drew)) hG
        have s8 : w8.cell? ⟨g + 1, 0, none⟩ = some (.slice xa xn xc) := block_cell hST.1 rfl
        have f8 : w8.frozen? ⟨g + 1, 0, none⟩ = false := block_free hST.1
        have l8 := lt_of_heap hST.1
        have HS2 := Lib.hid hST.2
        clear hG hST s1 lg c0
        go_wp2_with fail
        go_roundw
        case rel => exact ⟨j + 1, a2, xn + 1, c2, X ++ [z], by go_num, by omega, by omega, HS2⟩
        case measure => simp [intOf]; omega
    · have hlt' : ¬ (j : Int) < (n : Int) := by omega
      obtain rfl : j = n := by omega
      have s0 : wr.cell? ⟨g + 1, 0, none⟩ = some (.slice xa xn xc) := block_cell HY.out.ans rfl
      have s1 : wr.cell? ⟨g + 1, 1, none⟩ = some (.int .u64 0) := block_cell HY.out.ans rfl
      have s2 : wr.cell? ⟨g + 1, 2, none⟩ = some (.bool false) := block_cell HY.out.ans rfl
      have lg := lt_of_heap HY.out.ans
      have r0 : wr.cell? ⟨g, 0, none⟩ = some (.slice none 0 0) := block_cell HY.out.res rfl
      have r1 : wr.cell? ⟨g, 1, none⟩ = some (.int .u64 0) := block_cell HY.out.res rfl
      have r2 : wr.cell? ⟨g, 2, none⟩ = some (.bool false) := block_cell HY.out.res rfl
      have rf : ∀ i, wr.frozen? ⟨g, i, none⟩ = false := fun i => block_free HY.out.res
      have lr := lt_of_heap HY.out.res
      go_wp2_with fail
      obtain ⟨w9, hw9⟩ : ∃ w9, (((wr.setCell ⟨g, 0, none⟩ (.slice xa xn xc)).setCell ⟨g, 1, none⟩ (.int .u64 0)).setCell ⟨g, 2, none⟩ (.bool false)) = w9 := ⟨_, rfl⟩
      have hO9 : Only (fun k => k = g) wr w9 := by rw [← hw9]; exact (((Only.refl (fun k => k = g) wr).setCell ⟨g, 0, none⟩ _ (fun _ => rfl)).setCell ⟨g, 1, none⟩ _ (fun _ => rfl)).setCell ⟨g, 2, none⟩ _ (fun _ => rfl)
      have hb9 : w9.heap[g]? = some (.cells #[.slice xa xn xc, .int .u64 0, .bool false] 55 (0, 0)) := by
        rw [← hw9]
        exact setCell_heap (setCell_heap (setCell_heap HY.out.res 0 _) 1 _) 2 _
      have y0 := block_cell (j := 0) hb9 rfl
      have y1 := block_cell (j := 1) hb9 rfl
      have y2 := block_cell (j := 2) hb9 rfl
      rw [hw9]
      refine bodyPost_ret (v := .agg #[.slice xa xn xc, .int .u64 0, .bool false]) ?_ rfl ?_
      · simp [results, Tryd.results22, go_sem, y0, y1, y2]
      have hgn := HY.out.new
      refine ⟨xa, xn, xc, X, rfl, HY.out.row.rs.keep hO9 (fun k hk e => by have := HY.out.xnew k hk; have e' : k = g := e; omega), new_only HY.out.same hO9 (fun k e => by have e' : k = g := e; omega), fun k hk => ⟨by have := HY.out.xnew k hk; omega, Nat.lt_of_lt_of_le (HY.out.row.1.lt k hk) hO9.size⟩⟩
end Go.Proofs.YtcjifjfcjimefaaDoor.yf

/-
  The heap of impl: said, gone.
-/
import Derived.Test.YtpddddjfjmipfaaFhDel
import Derived.Test.YtpddddjfjmipfaaSt
import Derived.Test.YtpddddjfjmipfaaApp
namespace Go.Proofs.Ytpddddjfjmipfaa.fh
open Go.RowKit Go.Proofs.Ytpddddjfjmipfaa.base Go.Proofs.Ytpddddjfjmipfaa.heap Go.Proofs.Ytpddddjfjmipfaa.rows Go.Proofs.Ytpddddjfjmipfaa.flt
set_option linter.unusedVariables false

/-- an entry that came: its block and its priority, or it went -/
abbrev Ent := Option (Nat × Int)
def pe (x : Ent) : Value := po (x.map (·.1))
/-- an answer -/
structure An where
  is : Bool
  ent : Int
  p : Int
  size : Int
  emp : Bool
abbrev anv (x : An) : Value := .agg #[.bool x.is, .int .i64 x.ent, .int .i64 x.p, .int .i64 x.size, .bool x.emp]
def anc (x : An) : List Value := [.bool x.is, .int .i64 x.ent, .int .i64 x.p, .int .i64 x.size, .bool x.emp]
theorem hob_cell {w : World} {gb hb n ec : Nat} {ea : Option Addr} (hg : w.heap[gb]? = some (.cells #[pp hb, .slice ea n ec] 54 (0, 0))) : w.cell? ⟨gb, 1, none⟩ = some (.slice ea n ec) := block_cell hg rfl
def set5 (w : World) (g : Nat) (a b c d e : Value) : World := ((((w.setCell ⟨g, 0, none⟩ a).setCell ⟨g, 1, none⟩ b).setCell ⟨g, 2, none⟩ c).setCell ⟨g, 3, none⟩ d).setCell ⟨g, 4, none⟩ e
theorem set5_only (w : World) (g : Nat) (a b c d e : Value) : Only (fun k => k = g) w (set5 w g a b c d e) :=
  ((((((Only.refl (fun k => k = g) w).setCell ⟨g, 0, none⟩ _ (fun _ => rfl)).setCell ⟨g, 1, none⟩ _ (fun _ => rfl)).setCell ⟨g, 2, none⟩ _ (fun _ => rfl)).setCell ⟨g, 3, none⟩ _ (fun _ => rfl)).setCell ⟨g, 4, none⟩ _ (fun _ => rfl))
theorem set5_obj {w : World} {g : Nat} {t : TypeId} {v0 v1 v2 v3 v4 a b c d e : Value} (h : w.heap[g]? = some (.cells #[v0, v1, v2, v3, v4] t (0, 0))) : (set5 w g a b c d e).heap[g]? = some (.cells #[a, b, c, d, e] t (0, 0)) :=
  setCell_heap (setCell_heap (setCell_heap (setCell_heap (setCell_heap h 0 a) 1 b) 2 c) 3 d) 4 e
set_option maxRecDepth 100000 in
set_option maxHeartbeats 1600000 in
theorem said_err (w : World) (gb hb n ec : Nat) (ea : Option Addr) (X : List Ent) (er : Value) (her : IsErr er) (hg : w.heap[gb]? = some (.cells #[pp hb, .slice ea n ec] 54 (0, 0))) (hr : RL pe w ea n ec X) (hn : n < 100000) :
    Calls Try.prog 25 #[pp gb, .pointer none, er] w (FV w (anv ⟨false, -1, 0, 0, false⟩)) := by
  obtain ⟨t, x, rfl⟩ := her
  have hc := hob_cell hg
  have lg := lt_of_heap hg
  have hs : Same w w := Only.refl _ _
  have HR := Lib.hid hr
  have HW := Lib.hid hs
  clear hr hg hs
  have hbd := HR.out.bound
  go_enter Try.func25, Try.ntmps25
  go_wp2_with fail
  go_loop [18] (fun i => ∃ j : Nat, i = .int .i64 (j : Int) ∧ j ≤ n) (fun i => n - (intOf i).toNat)
  case atStart => exact ⟨0, rfl, Nat.zero_le _⟩
  case round =>
    obtain ⟨j, rfl, hj⟩ := hrel
    by_cases hlt : j < n
    · have hlt' : (j : Int) < (n : Int) := by omega
      obtain ⟨y, hy⟩ := HR.out.get hlt
      obtain ⟨b, off, rfl, hb, hcs⟩ := HR.out.at (by omega)
      have c1 := hcs j y hy
      have hbo : b ≠ w.heap.size := by omega
      clear hcs hy
      generalize pe y = vy at c1
      go_wp2_with fail
      go_round
      case rel => exact ⟨j + 1, by go_num, by omega⟩
      case measure => simp [intOf]; omega
    · have hlt' : ¬ (j : Int) < (n : Int) := by omega
      obtain rfl : j = n := by omega
      go_wp2_with fail
      refine bodyPost_ret (v := anv ⟨false, -1, 0, 0, false⟩) ?_ rfl ?_
      · simp [results, Try.results25, go_sem]
      exact ⟨rfl, ((Only.refl _ _).alloc _).alloc _⟩
set_option maxRecDepth 100000 in
set_option maxHeartbeats 1600000 in
theorem said_nil (w : World) (gb hb n ec : Nat) (ea : Option Addr) (X : List Ent) (hg : w.heap[gb]? = some (.cells #[pp hb, .slice ea n ec] 54 (0, 0))) (hr : RL pe w ea n ec X) (hn : n < 100000) :
    Calls Try.prog 25 #[pp gb, .pointer none, .nilIface] w (FV w (anv ⟨true, -1, 0, 0, false⟩)) := by
  have hc := hob_cell hg
  have lg := lt_of_heap hg
  have hs : Same w w := Only.refl _ _
  have HR := Lib.hid hr
  have HW := Lib.hid hs
  clear hr hg hs
  have hbd := HR.out.bound
  go_enter Try.func25, Try.ntmps25
  go_wp2_with fail
  go_loop [18] (fun i => ∃ j : Nat, i = .int .i64 (j : Int) ∧ j ≤ n) (fun i => n - (intOf i).toNat)
  case atStart => exact ⟨0, rfl, Nat.zero_le _⟩
  case round =>
    obtain ⟨j, rfl, hj⟩ := hrel
    by_cases hlt : j < n
    · have hlt' : (j : Int) < (n : Int) := by omega
      obtain ⟨y, hy⟩ := HR.out.get hlt
      obtain ⟨b, off, rfl, hb, hcs⟩ := HR.out.at (by omega)
      have c1 := hcs j y hy
      have hbo : b ≠ w.heap.size := by omega
      clear hcs hy
      generalize pe y = vy at c1
      go_wp2_with fail
      go_round
      case rel => exact ⟨j + 1, by go_num, by omega⟩
      case measure => simp [intOf]; omega
    · have hlt' : ¬ (j : Int) < (n : Int) := by omega
      obtain rfl : j = n := by omega
      go_wp2_with fail
      refine bodyPost_ret (v := anv ⟨true, -1, 0, 0, false⟩) ?_ rfl ?_
      · simp [results, Try.results25, go_sem]
      exact ⟨rfl, ((Only.refl _ _).alloc _).alloc _⟩
set_option maxRecDepth 100000 in
set_option maxHeartbeats 1600000 in
theorem said_some (w : World) (gb hb n ec i0 x : Nat) (p : Int) (ea : Option Addr) (X : List Ent) (hg : w.heap[gb]? = some (.cells #[pp hb, .slice ea n ec] 54 (0, 0))) (hr : RL pe w ea n ec X) (hn : n < 100000)
    (hx : X[i0]? = some (some (x, p))) (hu : ∀ j q, X[j]? = some (some (x, q)) → j = i0) (hl : ∀ u q, some (u, q) ∈ X → Liv w u) (hcx : w.cell? ⟨x, 6, none⟩ = some (.float .f64 (fl p))) (hp : p.natAbs < 2 ^ 53) :
    Calls Try.prog 25 #[pp gb, pp x, .nilIface] w (FV w (anv ⟨true, (i0 : Int), p, 0, false⟩)) := by
  have hc := hob_cell hg
  have lg := lt_of_heap hg
  have hs : Same w w := Only.refl _ _
  have HR := Lib.hid hr
  have hbd := HR.out.bound
  have hxL := hl x p (List.mem_of_getElem? hx)
  have lx : x < w.heap.size := by
    obtain ⟨c, t, h⟩ := hxL
    exact lt_of_heap h
  have HB := Lib.hid (fl_back hp)
  have HXL := Lib.hid hxL
  have HL := Lib.hid hl
  have HX := Lib.hid hx
  have HU := Lib.hid hu
  have hi0 : i0 < n := by have := (List.getElem?_eq_some_iff.1 hx).1; rw [HR.out.2] at this; exact this
  obtain ⟨fp, hfp⟩ : ∃ fp, fl p = fp := ⟨_, rfl⟩
  rw [hfp] at HB hcx
  clear hr hg hs hx hu hl hxL hp hfp
  go_enter Try.func25, Try.ntmps25
  go_wp2_with fail
  obtain ⟨w1, HW1⟩ : ∃ w1, Hid ((w.alloc (.cells #[.bool false, .int .i64 0, .int .i64 0, .int .i64 0, .bool false] 35)).alloc (.cells #[.bool true, .int .i64 (-1), .int .i64 0, .int .i64 0, .bool false] 35) = w1) := ⟨_, Lib.hid rfl⟩
  have HS1 : Hid (Same w w1) := Lib.hid (by rw [← HW1.out]; exact ((Only.refl _ _).alloc _).alloc _)
  have HG1 : Hid (w1.heap[w.heap.size + 1]? = some (.cells #[.bool true, .int .i64 (-1), .int .i64 0, .int .i64 0, .bool false] 35 (0, 0))) := Lib.hid (by rw [← HW1.out]; exact heap_alloc_new' _ _ _ (by simp))
  have HG0 : Hid (w1.heap[w.heap.size]? = some (.cells #[.bool false, .int .i64 0, .int .i64 0, .int .i64 0, .bool false] 35 (0, 0))) := Lib.hid (by
    rw [← HW1.out]
    show ((w.heap.push _).push _)[w.heap.size]? = _
    rw [Array.getElem?_push, if_neg (by simp), Array.getElem?_push, if_pos rfl])
  rw [HW1.out]
  clear HW1
  go_loopw [18] (fun i wr => ∃ j : Nat, i = .int .i64 (j : Int) ∧ j ≤ n ∧ Hid (Only (fun k => k = w.heap.size + 1) w1 wr) ∧ ∃ si sp : Int, Hid (wr.heap[w.heap.size + 1]? = some (.cells #[.bool true, .int .i64 si, .int .i64 sp, .int .i64 0, .bool false] 35 (0, 0))) ∧ Hid ((i0 < j → si = (i0 : Int) ∧ sp = p) ∧ (¬ i0 < j → si = -1 ∧ sp = 0))) (fun i _ => n - (intOf i).toNat)
  case atStart => exact ⟨0, rfl, Nat.zero_le _, Lib.hid (Only.refl _ _), _, _, HG1, Lib.hid ⟨fun h => by omega, fun _ => ⟨rfl, rfl⟩⟩⟩
  case round =>
    obtain ⟨j, rfl, hj, HO1, si, sp, HG, HSI⟩ := hrel
    have HO : Hid (Only (fun k => k = w.heap.size + 1) w wr) := Lib.hid (Only.trans (S := fun k => k = w.heap.size + 1) (HS1.out.mono (fun _ _ f => f.elim)) HO1.out (fun _ _ h => h))
    have hg0 := HO1.out.obj HG0.out (by omega)
    have e0 : wr.cell? ⟨w.heap.size, 0, none⟩ = some (.bool false) := block_cell hg0 rfl
    have e1 : wr.cell? ⟨w.heap.size, 1, none⟩ = some (.int .i64 0) := block_cell hg0 rfl
    have e2 : wr.cell? ⟨w.heap.size, 2, none⟩ = some (.int .i64 0) := block_cell hg0 rfl
    have e3 : wr.cell? ⟨w.heap.size, 3, none⟩ = some (.int .i64 0) := block_cell hg0 rfl
    have e4 : wr.cell? ⟨w.heap.size, 4, none⟩ = some (.bool false) := block_cell hg0 rfl
    have f0 : ∀ i, wr.frozen? ⟨w.heap.size, i, none⟩ = false := fun i => block_free hg0
    clear hg0
    have c3 : wr.cell? ⟨w.heap.size + 1, 0, none⟩ = some (.bool true) := block_cell HG.out rfl
    have c4 : wr.cell? ⟨w.heap.size + 1, 1, none⟩ = some (.int .i64 si) := block_cell HG.out rfl
    have c5 : wr.cell? ⟨w.heap.size + 1, 2, none⟩ = some (.int .i64 sp) := block_cell HG.out rfl
    have c6 : wr.cell? ⟨w.heap.size + 1, 3, none⟩ = some (.int .i64 0) := block_cell HG.out rfl
    have c7 : wr.cell? ⟨w.heap.size + 1, 4, none⟩ = some (.bool false) := block_cell HG.out rfl
    have f3 : ∀ i, wr.frozen? ⟨w.heap.size + 1, i, none⟩ = false := fun i => block_free HG.out
    by_cases hlt : j < n
    · have hlt' : (j : Int) < (n : Int) := by omega
      obtain ⟨y, hy⟩ := HR.out.get hlt
      obtain ⟨b, off, hab, hb, hcs⟩ := HR.out.at (by omega)
      subst hab
      have c1 : wr.cell? ⟨b, off + j, none⟩ = some (pe y) := (HO.out.cell (p := ⟨b, off + j, none⟩) hb (by show ¬ b = _; omega)).trans (hcs j y hy)
      have c2 : wr.cell? ⟨x, 6, none⟩ = some (.float .f64 fp) := (HO.out.cell (p := ⟨x, 6, none⟩) lx (by show ¬ x = _; omega)).trans hcx
      have Lx : Liv wr x := HXL.out.keep HO.out (by omega)
      have hgx : w.heap.size + 1 ≠ x := by omega
      clear hcs
      by_cases hji : j = i0
      · have hyx : y = some (x, p) := by have := HX.out; rw [← hji, hy] at this; simpa using this
        subst hyx
        have c1' : wr.cell? ⟨b, off + j, none⟩ = some (pp x) := c1
        have HE := Lib.hid (eql_pp Lx Lx)
        have HJI := Lib.hid hji
        rw [beq_self_eq_true] at HE
        clear c1 hy hji
        go_wp2_with fail
        rw [HE.out]
        have hbk : ∀ w, (convert 63 3 (.float .f64 fp)).run Try.prog w = .ok (.int .i64 p) w := fun w => run_convert_float_int w 63 3 .f64 .i64 fp p (by rw [Try.underlying63]; rfl) Try.underlying3 HB.out
        go_wp2_with fail
        go_region
        have HO2 : Hid (Only (fun k => k = w.heap.size + 1) w1 ((wr.setCell ⟨w.heap.size + 1, 1, none⟩ (.int .i64 (j : Int))).setCell ⟨w.heap.size + 1, 2, none⟩ (.int .i64 p)).drew) := Lib.hid (((HO1.out.setCell ⟨w.heap.size + 1, 1, none⟩ (.int .i64 (j : Int)) (fun _ => rfl)).setCell ⟨w.heap.size + 1, 2, none⟩ (.int .i64 p) (fun _ => rfl)).drew)
        have HG2 : Hid (((wr.setCell ⟨w.heap.size + 1, 1, none⟩ (.int .i64 (j : Int))).setCell ⟨w.heap.size + 1, 2, none⟩ (.int .i64 p)).drew.heap[w.heap.size + 1]? = some (.cells #[.bool true, .int .i64 (i0 : Int), .int .i64 p, .int .i64 0, .bool false] 35 (0, 0))) := Lib.hid (by
          have h := setCell_heap (setCell_heap HG.out 1 (.int .i64 (j : Int))) 2 (.int .i64 p)
          rw [← HJI.out]
          exact h)
        generalize ((wr.setCell ⟨w.heap.size + 1, 1, none⟩ (.int .i64 (j : Int))).setCell ⟨w.heap.size + 1, 2, none⟩ (.int .i64 p)).drew = w5 at HO2 HG2 ⊢
        go_wp2_with fail
        go_roundw
        case rel => exact ⟨j + 1, by go_num, by omega, HO2, _, _, HG2, Lib.hid ⟨fun _ => ⟨rfl, rfl⟩, fun h => by have := HJI.out; omega⟩⟩
        case measure => simp [intOf]; omega
      · have HSI2 : Hid ((i0 < j + 1 → si = (i0 : Int) ∧ sp = p) ∧ (¬ i0 < j + 1 → si = -1 ∧ sp = 0)) := Lib.hid ⟨fun h => HSI.out.1 (by omega), fun h => HSI.out.2 (by omega)⟩
        have hne : ∀ u q, y = some (u, q) → x ≠ u := fun u q hy' e => hji (HU.out j q (by rw [hy, hy', e]))
        cases y with
        | none =>
          replace c1 : wr.cell? ⟨b, off + j, none⟩ = some (.pointer none) := c1
          clear hy hne
          go_wp2_with fail
          go_roundw
          case rel => exact ⟨j + 1, by go_num, by omega, HO1, si, sp, HG, HSI2⟩
          case measure => simp [intOf]; omega
        | some uq =>
          obtain ⟨u, q⟩ := uq
          replace c1 : wr.cell? ⟨b, off + j, none⟩ = some (pp u) := c1
          have hxu := hne u q rfl
          have Lu : Liv wr u := by
            have h9 := HL.out u q (List.mem_of_getElem? hy)
            have : u < w.heap.size := by
              obtain ⟨c, t, h⟩ := h9
              exact lt_of_heap h
            exact h9.keep HO.out (by omega)
          have HE := Lib.hid (eql_pp Lx Lu)
          have h10 : (x == u) = false := by simpa using hxu
          rw [h10] at HE
          clear hy hne h10
          go_wp2_with fail
          rw [HE.out]
          go_wp2_with fail
          go_roundw
          case rel => exact ⟨j + 1, by go_num, by omega, HO1, si, sp, HG, HSI2⟩
          case measure => simp [intOf]; omega
    · have hlt' : ¬ (j : Int) < (n : Int) := by omega
      obtain rfl : j = n := by omega
      obtain ⟨rfl, rfl⟩ := HSI.out.1 hi0
      have HSW : Hid (Same w wr) := Lib.hid (Only.trans (S := fun _ => False) HS1.out HO1.out (fun k hk e => by omega))
      have hg0 := HO1.out.obj HG0.out (by omega)
      clear HL HX HU HB HXL HO HO1 HSI HG0 HG1 HS1
      go_wp2_with fail
      obtain ⟨w6, hw6⟩ : ∃ w6, set5 wr w.heap.size (.bool true) (.int .i64 (i0 : Int)) (.int .i64 sp) (.int .i64 0) (.bool false) = w6 := ⟨_, rfl⟩
      have hg6 : w6.heap[w.heap.size]? = some (.cells #[.bool true, .int .i64 (i0 : Int), .int .i64 sp, .int .i64 0, .bool false] 35 (0, 0)) := by rw [← hw6]; exact set5_obj hg0
      have hs6 : Same w w6 := Only.trans (S := fun _ => False) HSW.out (by rw [← hw6]; exact set5_only wr w.heap.size _ _ _ _ _) (fun k hk e => by omega)
      unfold set5 at hw6
      rw [hw6]
      have y0 : w6.cell? ⟨w.heap.size, 0, none⟩ = some (.bool true) := block_cell hg6 rfl
      have y1 : w6.cell? ⟨w.heap.size, 1, none⟩ = some (.int .i64 (i0 : Int)) := block_cell hg6 rfl
      have y2 : w6.cell? ⟨w.heap.size, 2, none⟩ = some (.int .i64 sp) := block_cell hg6 rfl
      have y3 : w6.cell? ⟨w.heap.size, 3, none⟩ = some (.int .i64 0) := block_cell hg6 rfl
      have y4 : w6.cell? ⟨w.heap.size, 4, none⟩ = some (.bool false) := block_cell hg6 rfl
      refine bodyPost_ret (v := anv ⟨true, (i0 : Int), sp, 0, false⟩) ?_ rfl ?_
      · simp [results, Try.results25, go_sem, y0, y1, y2, y3, y4]
      exact ⟨rfl, hs6⟩
end Go.Proofs.Ytpddddjfjmipfaa.fh

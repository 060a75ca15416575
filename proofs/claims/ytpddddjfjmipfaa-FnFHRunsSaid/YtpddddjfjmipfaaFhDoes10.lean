/-
  does of spec: another heap comes in
-/
import Derived.Test.YtpddddjfjmipfaaFhDoes9
import Derived.Test.YtpddddjfjmipfaaFhEnts
import Derived.Test.YtpddddjfjmipfaaFhLaw
namespace Go.Proofs.Ytpddddjfjmipfaa.fh
open Go.RowKit Go.Proofs.Ytpddddjfjmipfaa.base Go.Proofs.Ytpddddjfjmipfaa.heap Go.Proofs.Ytpddddjfjmipfaa.rows Go.Proofs.Ytpddddjfjmipfaa.flt
set_option linter.unusedVariables false

/-- in the course of the merge -/
structure Ml (w2 wr : World) (g : Nat) (a a' : Option Addr) (n n' many mj : Nat) (L : List En) (M : List Int) (j c' : Nat) : Prop where
  only : Only (fun k => k = g) w2 wr
  obj : wr.heap[g]? = some (.cells #[.slice a' n' c', .int .i64 (mj : Int)] 28 (0, 0))
  row : RE wr a' n' c' (L ++ ents many ((M.take j).map some))
  new : ∀ q, At a' q → At a q ∨ w2.heap.size ≤ q
  low : 0 < n' → ∀ q, At a' q → (0 < n ∧ At a q) ∨ w2.heap.size ≤ q
  len : n' = n + j
  mny : mj = many + j
set_option maxRecDepth 100000 in
set_option maxHeartbeats 6400000 in
theorem does6 (a : Option Addr) (n c many : Nat) (L : List En) (sn sp : Int) (sa : Option Addr) (sm sc : Nat) (M : List Int) (xs : Int) (xm : Bool) (w : World) (h : RE w a n c L) (hn : n ≤ 10000) (hm : many ≤ 10000) (hM : RL iv w sa sm sc M) (hsm : sm ≤ 40) (hat : ∃ r, ∀ r', AtI L sn r' → r' = r) : Calls Try.prog 19 #[hv a n c many, .agg #[.int .i64 6, .int .i64 sn, .int .i64 sp, .slice sa sm sc], .agg #[.bool true, .int .i64 (-1), .int .i64 0, .int .i64 xs, .bool xm]] w (DoP a (L ++ ents many (M.map some)) (many + sm) w) := by
  have HR := Lib.hid h
  have hbd := h.bound
  clear h
  obtain ⟨q, hq⟩ := hat
  have HM := Lib.hid hM
  have HLO : Hid (0 < n → ∀ j, At a j → j < w.heap.size) := Lib.hid (RE_low HR.out)
  have hbm := hM.bound
  clear hM
  go_enter Try.func19, Try.ntmps19
  go_upto_region 1 with fail
  obtain ⟨w1, hw1⟩ : ∃ w1, ((((w.alloc (.cells #[.slice a n c, .int .i64 (many : Int)] 28)).alloc (.cells #[.int .i64 6, .int .i64 sn, .int .i64 sp, .slice sa sm sc] 31)).alloc (.cells #[.bool true, .int .i64 (-1), .int .i64 0, .int .i64 xs, .bool xm] 35)).alloc (.cells #[.slice none 0 0, .int .i64 0] 28)) = w1 := ⟨_, rfl⟩
  obtain ⟨g, hg⟩ : ∃ g, w.heap.size = g := ⟨_, rfl⟩
  have HG := Lib.hid hg
  have HS1 : Hid (Same w w1) := Lib.hid (by rw [← hw1]; exact ((((Only.refl _ _).alloc _).alloc _).alloc _).alloc _)
  have HB1 : Hid (Bx w1 g a n c many 6 sn sp (.slice sa sm sc) true (-1) 0 xs xm) := Lib.hid (by
    have e1 := hw1
    rw [← e1, ← hg]
    exact ⟨((Only.refl (fun _ => False) _).alloc _).alloc _ |>.obj (heap_box _ _) id, by
      have := heap_box (w := w.alloc (.cells #[.slice a n c, .int .i64 (many : Int)] 28)) (.cells #[.int .i64 6, .int .i64 sn, .int .i64 sp, .slice sa sm sc] 31) (.cells #[.bool true, .int .i64 (-1), .int .i64 0, .int .i64 xs, .bool xm] 35)
      exact ((Only.refl (fun _ => False) _).alloc _).obj (by simpa using this) id, by
      have := heap_box (w := (w.alloc (.cells #[.slice a n c, .int .i64 (many : Int)] 28)).alloc (.cells #[.int .i64 6, .int .i64 sn, .int .i64 sp, .slice sa sm sc] 31)) (.cells #[.bool true, .int .i64 (-1), .int .i64 0, .int .i64 xs, .bool xm] 35) (.cells #[.slice none 0 0, .int .i64 0] 28)
      simpa using this, heap_alloc_new' _ _ _ (by simp)⟩)
  rw [hw1]
  simp only [hg, Nat.add_assoc, Nat.reduceAdd]
  clear hw1 hg
  have HAT : Hid (∀ wx, Same w1 wx → Calls Try.prog 32 #[hv a n c many, .int .i64 sn] wx fun e w' => e = .returned (.int .i64 q) ∧ Same wx w') := Lib.hid (fun wx hx => (atC a n c many L sn wx ((HR.out.still HS1.out).still hx) (by omega)).mono (by
    rintro e w' ⟨r, rfl, hr, hs⟩
    rw [hq r hr]
    exact ⟨rfl, hs⟩))
  have a0_w1 : w1.cell? ⟨g, 0, none⟩ = some (.slice a n c) := block_cell (HB1.out).h0 rfl
  have a1_w1 : w1.cell? ⟨g, 1, none⟩ = some (.int .i64 (many : Int)) := block_cell (HB1.out).h0 rfl
  have b1_w1 : w1.cell? ⟨g + 1, 1, none⟩ = some (.int .i64 sn) := block_cell (HB1.out).h1 rfl
  have c1_w1 : w1.cell? ⟨g + 2, 1, none⟩ = some (.int .i64 (-1)) := block_cell (HB1.out).h2 rfl
  have c2_w1 : w1.cell? ⟨g + 2, 2, none⟩ = some (.int .i64 0) := block_cell (HB1.out).h2 rfl
  go_upto_region 2 with fail
  go_wp2_with fail
  refine (HAT.out _ (by first | exact Only.refl _ _ | exact (Only.refl _ _).drew)).mono ?_
  rintro e w2 ⟨rfl, hs2⟩
  have HS2 : Hid (Same w1 w2) := Lib.hid (by first | exact hs2 | exact (Only.drew (Only.refl (fun _ => False) w1)).trans hs2 (fun _ _ h => h))
  have HB2 := Lib.hid (HB1.out.still HS2.out)
  clear hs2 HAT a0_w1 a1_w1 b1_w1 c1_w1 c2_w1
  have a0_w2 : w2.cell? ⟨g, 0, none⟩ = some (.slice a n c) := block_cell (HB2.out).h0 rfl
  have a1_w2 : w2.cell? ⟨g, 1, none⟩ = some (.int .i64 (many : Int)) := block_cell (HB2.out).h0 rfl
  have b0_w2 : w2.cell? ⟨g + 1, 0, none⟩ = some (.int .i64 6) := block_cell (HB2.out).h1 rfl
  have b3_w2 : w2.cell? ⟨g + 1, 3, none⟩ = some (.slice sa sm sc) := block_cell (HB2.out).h1 rfl
  have c0_w2 : w2.cell? ⟨g + 2, 0, none⟩ = some (.bool true) := block_cell (HB2.out).h2 rfl
  have c1_w2 : w2.cell? ⟨g + 2, 1, none⟩ = some (.int .i64 (-1)) := block_cell (HB2.out).h2 rfl
  have c2_w2 : w2.cell? ⟨g + 2, 2, none⟩ = some (.int .i64 0) := block_cell (HB2.out).h2 rfl
  have d0_w2 : w2.cell? ⟨g + 3, 0, none⟩ = some (.slice none 0 0) := block_cell (HB2.out).h3 rfl
  have d1_w2 : w2.cell? ⟨g + 3, 1, none⟩ = some (.int .i64 0) := block_cell (HB2.out).h3 rfl
  have f3_w2 : ∀ i, w2.frozen? ⟨g + 3, i, none⟩ = false := fun i => block_free (HB2.out).h3
  have lg_w2 : g + 3 < w2.heap.size := lt_of_heap (HB2.out).h3
  have HMX : Hid (∀ wx, Only (fun k => k = g) w2 wx → RL iv wx sa sm sc M) := Lib.hid (fun wx hx => rl_keep ((HM.out.still HS1.out).still HS2.out) hx (fun h0 j hj e => by have := rl_lt HM.out h0 j hj; have := HG.out; have e' : j = g := e; omega))
  have HBX : Hid (∀ wx, Only (fun k => k = g) w2 wx → wx.heap[g + 2]? = some (.cells #[.bool true, .int .i64 (-1), .int .i64 0, .int .i64 xs, .bool xm] 35 (0, 0)) ∧ wx.heap[g + 3]? = some (.cells #[.slice none 0 0, .int .i64 0] 28 (0, 0))) := Lib.hid (fun wx hx => ⟨hx.obj HB2.out.h2 (by omega), hx.obj HB2.out.h3 (by omega)⟩)
  have HZ : Hid (w.heap.size ≤ w2.heap.size ∧ w.heap.size = g ∧ g + 3 < w2.heap.size ∧ Same w w2) := Lib.hid ⟨(HS1.out.trans HS2.out).size, HG.out, lg_w2, HS1.out.trans HS2.out⟩
  have HL0 : Hid (Ml w2 w2 g a a n n many many L M 0 c) := Lib.hid ⟨Only.refl _ _, HB2.out.h0, by simpa [ents] using HR.out.still (HS1.out.trans HS2.out), fun j hj => .inl hj, fun h0 j hj => .inl ⟨h0, hj⟩, rfl, rfl⟩
  clear HR HS1 HB1 HS2 hq HG HM
  go_wp2_with fail
  go_loopw [160] (fun i wr => ∃ (j : Nat) (a' : Option Addr) (n' c' mj : Nat), i = .int .i64 (j : Int) ∧ j ≤ sm ∧ n' ≤ n + sm ∧ mj ≤ many + sm ∧ Hid (Ml w2 wr g a a' n n' many mj L M j c')) (fun i _ => sm - (intOf i).toNat)
  case atStart => exact ⟨0, a, n, c, many, rfl, Nat.zero_le _, by omega, by omega, HL0⟩
  case round =>
    clear HL0 a0_w2 a1_w2 b0_w2 b3_w2 c0_w2 c1_w2 c2_w2 d0_w2 d1_w2 f3_w2 lg_w2
    obtain ⟨j, a', n', c', mj, rfl, hj, hn', hmj, HL⟩ := hrel
    have a0_wr : wr.cell? ⟨g, 0, none⟩ = some (.slice a' n' c') := block_cell HL.out.obj rfl
    have a1_wr : wr.cell? ⟨g, 1, none⟩ = some (.int .i64 (mj : Int)) := block_cell HL.out.obj rfl
    have f0_wr : ∀ i, wr.frozen? ⟨g, i, none⟩ = false := fun i => block_free HL.out.obj
    have lg_wr : g < wr.heap.size := lt_of_heap HL.out.obj
    by_cases hlt : j < sm
    · have hlt' : (j : Int) < (sm : Int) := by omega
      obtain ⟨p, hp⟩ := (HMX.out wr HL.out.only).get hlt
      obtain ⟨bm, off, rfl, hb, hc⟩ := (HMX.out wr HL.out.only).at (by omega)
      have m0 : wr.cell? ⟨bm, off + j, none⟩ = some (.int .i64 p) := hc j p hp
      have HPJ := Lib.hid hp
      have HW : Hid (Calls Try.prog 33 #[hv a' n' c' mj, .int .i64 p] wr (WiP (L ++ ents many ((M.take j).map some)) n' mj p wr)) := Lib.hid (withC a' n' c' mj _ p wr HL.out.row (by omega) (by omega))
      clear hc hp hb
      go_wp2_with fail
      refine HW.out.mono ?_
      rintro e w4 ⟨a4, c4, rfl, hr4, hs4, hn4⟩
      have HX4 : Hid (RE w4 a4 (n' + 1) c4 (L ++ ents many ((M.take j).map some) ++ [⟨mj, p⟩]) ∧ Same wr w4 ∧ ∀ q, At a4 q → wr.heap.size ≤ q) := Lib.hid ⟨hr4, hs4, hn4⟩
      have HO4 := Lib.hid (hs4.obj HL.out.obj id)
      have a0_w4 : w4.cell? ⟨g, 0, none⟩ = some (.slice a' n' c') := block_cell HO4.out rfl
      have a1_w4 : w4.cell? ⟨g, 1, none⟩ = some (.int .i64 (mj : Int)) := block_cell HO4.out rfl
      have f0_w4 : ∀ i, w4.frozen? ⟨g, i, none⟩ = false := fun i => block_free HO4.out
      have lg_w4 : g < w4.heap.size := lt_of_heap HO4.out
      clear hr4 hs4 hn4 HW a0_wr a1_wr f0_wr m0
      go_wp2_with fail
      go_roundw
      case rel =>
        refine ⟨j + 1, a4, n' + 1, c4, mj + 1, by go_num, by omega, by have := HL.out.len; omega, by have := HL.out.mny; omega, Lib.hid ?_⟩
        have ho : Only (fun k => k = g) w4 ((w4.setCell ⟨g, 0, none⟩ (.slice a4 (n' + 1) c4)).setCell ⟨g, 1, none⟩ (.int .i64 ((mj + 1 : Nat) : Int))) := Only.setCell (Only.setCell (Only.refl (fun k => k = g) w4) ⟨g, 0, none⟩ _ (fun _ => rfl)) ⟨g, 1, none⟩ _ (fun _ => rfl)
        refine ⟨HL.out.only.trans ((HX4.out.2.1.mono (fun _ _ f => f.elim)).trans ho (fun _ _ h => h)) (fun _ _ h => h), setCell_heap (setCell_heap HO4.out 0 _) 1 _, ?_, fun q hq => .inr (by have := HX4.out.2.2 q hq; have := HL.out.only.size; omega), fun _ q hq => .inr (by have := HX4.out.2.2 q hq; have := HL.out.only.size; omega), by have := HL.out.len; omega, by have := HL.out.mny; omega⟩
        have he : L ++ ents many ((M.take (j + 1)).map some) = L ++ ents many ((M.take j).map some) ++ [⟨mj, p⟩] := by
          rw [take_snoc M j p HPJ.out, List.map_append, ents_append, List.append_assoc, List.length_map, List.length_take, Nat.min_eq_left (by have := (List.getElem?_eq_some_iff.1 HPJ.out).1; omega), ← HL.out.mny]
          rfl
        rw [he]
        exact HX4.out.1.keep ho (fun q hq e => by have := HX4.out.2.2 q hq; have e' : q = g := e; omega)
      case measure => simp [intOf]; omega
    · have hlt' : ¬ (j : Int) < (sm : Int) := by omega
      obtain rfl : j = sm := by omega
      have hb2 := (HBX.out wr HL.out.only).1
      have HH3 := Lib.hid (HBX.out wr HL.out.only).2
      have c0_wr : wr.cell? ⟨g + 2, 0, none⟩ = some (.bool true) := block_cell hb2 rfl
      have d0 : wr.cell? ⟨g + 3, 0, none⟩ = some (.slice none 0 0) := block_cell HH3.out rfl
      have d1 : wr.cell? ⟨g + 3, 1, none⟩ = some (.int .i64 0) := block_cell HH3.out rfl
      have d2 : ∀ i, wr.frozen? ⟨g + 3, i, none⟩ = false := fun i => block_free HH3.out
      have d5 : g + 3 < wr.heap.size := lt_of_heap HH3.out
      clear hb2
      go_wp2_with fail
      obtain ⟨w6, hw6⟩ : ∃ w6, ((wr.setCell ⟨g + 3, 0, none⟩ (.slice a' n' c')).setCell ⟨g + 3, 1, none⟩ (.int .i64 (mj : Int))) = w6 := ⟨_, rfl⟩
      have ho6 : Only (fun k => k = g + 3) wr w6 := by rw [← hw6]; exact Only.setCell (Only.setCell (Only.refl (fun k => k = g + 3) wr) ⟨g + 3, 0, none⟩ _ (fun _ => rfl)) ⟨g + 3, 1, none⟩ _ (fun _ => rfl)
      have hh6 : w6.heap[g + 3]? = some (.cells #[.slice a' n' c', .int .i64 (mj : Int)] 28 (0, 0)) := by rw [← hw6]; exact setCell_heap (setCell_heap HH3.out 0 _) 1 _
      rw [hw6]
      have u0 : w6.cell? ⟨g + 3, 0, none⟩ = some (.slice a' n' c') := block_cell hh6 rfl
      have u1 : w6.cell? ⟨g + 3, 1, none⟩ = some (.int .i64 (mj : Int)) := block_cell hh6 rfl
      obtain ⟨z1, z2, z3, z4⟩ := HZ.out
      have hrow := HL.out.row
      rw [List.take_of_length_le (by rw [(HMX.out wr HL.out.only).2]; exact Nat.le_refl _)] at hrow
      have hmn := HL.out.mny
      refine bodyPost_ret (v := .tuple #[.agg #[.slice a' n' c', .int .i64 (mj : Int)], .bool true]) ?_ rfl ?_
      · exact res_does rfl rfl u0 u1
      refine ⟨a', n', c', by rw [← hmn], ?_, ?_, fun q hq => (HL.out.new q hq).imp id (fun h => by omega)⟩
      · exact RE_keep0 hrow ho6 (fun h0 q hq e => by
          have e' : q = g + 3 := e
          rcases HL.out.low h0 q hq with ⟨h1, h⟩ | h
          · have := HLO.out h1 q h; omega
          · omega)
      · exact Only.trans (S := fun _ => False) (Only.trans (S := fun _ => False) z4 HL.out.only (fun k hk e => by have e' : k = g := e; omega)) ho6 (fun k hk e => by have e' : k = g + 3 := e; omega)
end Go.Proofs.Ytpddddjfjmipfaa.fh

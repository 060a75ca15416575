/-
  does of spec: nothing turns
-/
import Derived.Test.YtpddddjfjmipfaaFhDoes1
namespace Go.Proofs.Ytpddddjfjmipfaa.fh
open Go.RowKit Go.Proofs.Ytpddddjfjmipfaa.base Go.Proofs.Ytpddddjfjmipfaa.heap Go.Proofs.Ytpddddjfjmipfaa.rows Go.Proofs.Ytpddddjfjmipfaa.flt
set_option linter.unusedVariables false

/-- the two results of does -/
theorem res_does {T : Array Value} {w : World} {g : Nat} {a : Option Addr} {n c many : Nat} (h6 : T[6]? = some (.pointer (some ⟨g + 3, 0, none⟩))) (h7 : T[7]? = some (.bool true)) (u0 : w.cell? ⟨g + 3, 0, none⟩ = some (.slice a n c)) (u1 : w.cell? ⟨g + 3, 1, none⟩ = some (.int .i64 (many : Int))) :
    Sem.run Try.prog (results Try.f19 T) w = .ok (.tuple #[.agg #[.slice a n c, .int .i64 (many : Int)], .bool true]) w := by
  simp [results, Try.results19, go_sem, h6, h7, u0, u1]
theorem RE_low {w : World} {a : Option Addr} {n c : Nat} {L : List En} (h : RE w a n c L) (h0 : 0 < n) : ∀ j, At a j → j < w.heap.size := fun j hj => by
  obtain ⟨b, off, rfl, hb, _⟩ := h.1.cells h0
  have hj' : b = j := hj
  omega
theorem RE_keep0 {S : Nat → Prop} {w w' : World} {a : Option Addr} {n c : Nat} {L : List En} (h : RE w a n c L) (ho : Only S w w') (hn : 0 < n → ∀ j, At a j → ¬ S j) : RE w' a n c L := by
  rcases Nat.eq_zero_or_pos n with h0 | h0
  · exact ⟨⟨h.1.len, h.1.le, h.1.max, h.1.one, fun h1 => by omega, h.1.nilcap⟩, h.2⟩
  · exact h.keep ho (hn h0)
/-- the heap as it was is the answer -/
theorem res_same {w w2 : World} {g : Nat} {a : Option Addr} {n c many : Nat} {L : List En} (h : RE w a n c L) (hs : Same w w2) (hg : w.heap.size = g) (hb : w2.heap[g + 3]? = some (.cells #[.slice none 0 0, .int .i64 0] 28 (0, 0))) {v : Value} (hv : v = .tuple #[.agg #[.slice a n c, .int .i64 (many : Int)], .bool true]) :
    DoP a L many w (.returned v) ((w2.setCell ⟨g + 3, 0, none⟩ (.slice a n c)).setCell ⟨g + 3, 1, none⟩ (.int .i64 (many : Int))) ∧ ((w2.setCell ⟨g + 3, 0, none⟩ (.slice a n c)).setCell ⟨g + 3, 1, none⟩ (.int .i64 (many : Int))).heap[g + 3]? = some (.cells #[.slice a n c, .int .i64 (many : Int)] 28 (0, 0)) := by
  have ho : Only (fun k => k = g + 3) w2 ((w2.setCell ⟨g + 3, 0, none⟩ (.slice a n c)).setCell ⟨g + 3, 1, none⟩ (.int .i64 (many : Int))) := Only.setCell (Only.setCell (Only.refl (fun k => k = g + 3) w2) ⟨g + 3, 0, none⟩ _ (fun _ => rfl)) ⟨g + 3, 1, none⟩ _ (fun _ => rfl)
  exact ⟨⟨a, n, c, by rw [hv], RE_keep0 (h.still hs) ho (fun h0 j hj e => by have := RE_low h h0 j hj; have e' : j = g + 3 := e; omega), Only.trans (S := fun _ => False) hs ho (fun k hk e => by have e' : k = g + 3 := e; omega), fun j hj => .inl hj⟩, setCell_heap (setCell_heap hb 0 _) 1 _⟩
set_option maxRecDepth 100000 in
set_option maxHeartbeats 6400000 in
theorem does5o (a : Option Addr) (n c many : Nat) (L : List En) (sn sp : Int) (sv : Value) (hsv : sv.cells = #[sv]) (xs : Int) (xm : Bool) (w : World) (h : RE w a n c L) (hn : n ≤ 10000) (hm : many ≤ 10000) (hq : ∀ r', AtI L sn r' → r' = -1) : Calls Try.prog 19 #[hv a n c many, .agg #[.int .i64 5, .int .i64 sn, .int .i64 sp, sv], .agg #[.bool false, .int .i64 (-1), .int .i64 0, .int .i64 xs, .bool xm]] w (DoP a L many w) := by
  have HR := Lib.hid h
  have hbd := h.bound
  clear h
  go_enter Try.func19, Try.ntmps19
  go_upto_region 1 with fail
  obtain ⟨w1, hw1⟩ : ∃ w1, ((((w.alloc (.cells #[.slice a n c, .int .i64 (many : Int)] 28)).alloc (.cells #[.int .i64 5, .int .i64 sn, .int .i64 sp, sv] 31)).alloc (.cells #[.bool false, .int .i64 (-1), .int .i64 0, .int .i64 xs, .bool xm] 35)).alloc (.cells #[.slice none 0 0, .int .i64 0] 28)) = w1 := ⟨_, rfl⟩
  obtain ⟨g, hg⟩ : ∃ g, w.heap.size = g := ⟨_, rfl⟩
  have HG := Lib.hid hg
  have HS1 : Hid (Same w w1) := Lib.hid (by rw [← hw1]; exact ((((Only.refl _ _).alloc _).alloc _).alloc _).alloc _)
  have HB1 : Hid (Bx w1 g a n c many 5 sn sp sv false (-1) 0 xs xm) := Lib.hid (by
    have e1 := hw1
    rw [← e1, ← hg]
    exact ⟨((Only.refl (fun _ => False) _).alloc _).alloc _ |>.obj (heap_box _ _) id, by
      have := heap_box (w := w.alloc (.cells #[.slice a n c, .int .i64 (many : Int)] 28)) (.cells #[.int .i64 5, .int .i64 sn, .int .i64 sp, sv] 31) (.cells #[.bool false, .int .i64 (-1), .int .i64 0, .int .i64 xs, .bool xm] 35)
      exact ((Only.refl (fun _ => False) _).alloc _).obj (by simpa using this) id, by
      have := heap_box (w := (w.alloc (.cells #[.slice a n c, .int .i64 (many : Int)] 28)).alloc (.cells #[.int .i64 5, .int .i64 sn, .int .i64 sp, sv] 31)) (.cells #[.bool false, .int .i64 (-1), .int .i64 0, .int .i64 xs, .bool xm] 35) (.cells #[.slice none 0 0, .int .i64 0] 28)
      simpa using this, heap_alloc_new' _ _ _ (by simp)⟩)
  rw [hw1]
  simp only [hg, Nat.add_assoc, Nat.reduceAdd]
  clear hw1 hg
  have HAT : Hid (∀ wx, Same w1 wx → Calls Try.prog 32 #[hv a n c many, .int .i64 sn] wx fun e w' => e = .returned (.int .i64 (-1)) ∧ Same wx w') := Lib.hid (fun wx hx => (atC a n c many L sn wx ((HR.out.still HS1.out).still hx) (by omega)).mono (by
    rintro e w' ⟨r, rfl, hr, hs⟩
    rw [hq r hr]
    exact ⟨rfl, hs⟩))
  have a0_w1 : w1.cell? ⟨g, 0, none⟩ = some (.slice a n c) := block_cell (HB1.out).h0 rfl
  have a1_w1 : w1.cell? ⟨g, 1, none⟩ = some (.int .i64 (many : Int)) := block_cell (HB1.out).h0 rfl
  have b1_w1 : w1.cell? ⟨g + 1, 1, none⟩ = some (.int .i64 sn) := block_cell (HB1.out).h1 rfl
  have c1_w1 : w1.cell? ⟨g + 2, 1, none⟩ = some (.int .i64 (-1)) := block_cell (HB1.out).h2 rfl
  have c2_w1 : w1.cell? ⟨g + 2, 2, none⟩ = some (.int .i64 0) := block_cell (HB1.out).h2 rfl
  go_upto_region 2 with fail
  go_wp2_with fail
  refine (HAT.out _ (by first | exact Only.refl _ _ | exact (Only.refl _ _).drew)).mono ?_
  rintro e w2 ⟨rfl, hs2⟩
  have HS2 : Hid (Same w1 w2) := Lib.hid (by first | exact hs2 | exact (Only.drew (Only.refl (fun _ => False) w1)).trans hs2 (fun _ _ h => h))
  have HB2 := Lib.hid (HB1.out.still HS2.out)
  clear hs2 HAT a0_w1 a1_w1 b1_w1 c1_w1 c2_w1
  have a0_w2 : w2.cell? ⟨g, 0, none⟩ = some (.slice a n c) := block_cell (HB2.out).h0 rfl
  have a1_w2 : w2.cell? ⟨g, 1, none⟩ = some (.int .i64 (many : Int)) := block_cell (HB2.out).h0 rfl
  have b0_w2 : w2.cell? ⟨g + 1, 0, none⟩ = some (.int .i64 5) := block_cell (HB2.out).h1 rfl
  have b2_w2 : w2.cell? ⟨g + 1, 2, none⟩ = some (.int .i64 sp) := block_cell (HB2.out).h1 rfl
  have c0_w2 : w2.cell? ⟨g + 2, 0, none⟩ = some (.bool false) := block_cell (HB2.out).h2 rfl
  have c1_w2 : w2.cell? ⟨g + 2, 1, none⟩ = some (.int .i64 (-1)) := block_cell (HB2.out).h2 rfl
  have c2_w2 : w2.cell? ⟨g + 2, 2, none⟩ = some (.int .i64 0) := block_cell (HB2.out).h2 rfl
  have d0_w2 : w2.cell? ⟨g + 3, 0, none⟩ = some (.slice none 0 0) := block_cell (HB2.out).h3 rfl
  have d1_w2 : w2.cell? ⟨g + 3, 1, none⟩ = some (.int .i64 0) := block_cell (HB2.out).h3 rfl
  have f3_w2 : ∀ i, w2.frozen? ⟨g + 3, i, none⟩ = false := fun i => block_free (HB2.out).h3
  have lg_w2 : g + 3 < w2.heap.size := lt_of_heap (HB2.out).h3
  go_wp2_with fail
  obtain ⟨hd, hh⟩ := res_same (many := many) HR.out (HS1.out.trans HS2.out) HG.out (HB2.out.h3) (v := .tuple #[.agg #[.slice a n c, .int .i64 (many : Int)], .bool true]) rfl
  obtain ⟨w5, hw5⟩ : ∃ w5, ((w2.setCell ⟨g + 3, 0, none⟩ (.slice a n c)).setCell ⟨g + 3, 1, none⟩ (.int .i64 (many : Int))) = w5 := ⟨_, rfl⟩
  rw [hw5] at hd hh ⊢
  have u0 : w5.cell? ⟨g + 3, 0, none⟩ = some (.slice a n c) := block_cell hh rfl
  have u1 : w5.cell? ⟨g + 3, 1, none⟩ = some (.int .i64 (many : Int)) := block_cell hh rfl
  refine bodyPost_ret (v := .tuple #[.agg #[.slice a n c, .int .i64 (many : Int)], .bool true]) ?_ rfl hd
  exact res_does rfl rfl u0 u1
set_option maxRecDepth 100000 in
set_option maxHeartbeats 6400000 in
theorem does2o (a : Option Addr) (n c many : Nat) (L : List En) (sn sp : Int) (sv : Value) (hsv : sv.cells = #[sv]) (xs : Int) (xm : Bool) (w : World) (h : RE w a n c L) (hn : n ≤ 10000) (hm : many ≤ 10000) (hat : ∃ r, ∀ r', AtI L sn r' → r' = r) (h0 : n = 0) : Calls Try.prog 19 #[hv a n c many, .agg #[.int .i64 2, .int .i64 sn, .int .i64 sp, sv], .agg #[.bool false, .int .i64 (-1), .int .i64 0, .int .i64 xs, .bool xm]] w (DoP a L many w) := by
  have HR := Lib.hid h
  have hbd := h.bound
  clear h
  obtain ⟨q, hq⟩ := hat
  have hn0 : ((n : Int) == 0) = true := by rw [h0]; rfl
  clear h0
  go_enter Try.func19, Try.ntmps19
  go_upto_region 1 with fail
  obtain ⟨w1, hw1⟩ : ∃ w1, ((((w.alloc (.cells #[.slice a n c, .int .i64 (many : Int)] 28)).alloc (.cells #[.int .i64 2, .int .i64 sn, .int .i64 sp, sv] 31)).alloc (.cells #[.bool false, .int .i64 (-1), .int .i64 0, .int .i64 xs, .bool xm] 35)).alloc (.cells #[.slice none 0 0, .int .i64 0] 28)) = w1 := ⟨_, rfl⟩
  obtain ⟨g, hg⟩ : ∃ g, w.heap.size = g := ⟨_, rfl⟩
  have HG := Lib.hid hg
  have HS1 : Hid (Same w w1) := Lib.hid (by rw [← hw1]; exact ((((Only.refl _ _).alloc _).alloc _).alloc _).alloc _)
  have HB1 : Hid (Bx w1 g a n c many 2 sn sp sv false (-1) 0 xs xm) := Lib.hid (by
    have e1 := hw1
    rw [← e1, ← hg]
    exact ⟨((Only.refl (fun _ => False) _).alloc _).alloc _ |>.obj (heap_box _ _) id, by
      have := heap_box (w := w.alloc (.cells #[.slice a n c, .int .i64 (many : Int)] 28)) (.cells #[.int .i64 2, .int .i64 sn, .int .i64 sp, sv] 31) (.cells #[.bool false, .int .i64 (-1), .int .i64 0, .int .i64 xs, .bool xm] 35)
      exact ((Only.refl (fun _ => False) _).alloc _).obj (by simpa using this) id, by
      have := heap_box (w := (w.alloc (.cells #[.slice a n c, .int .i64 (many : Int)] 28)).alloc (.cells #[.int .i64 2, .int .i64 sn, .int .i64 sp, sv] 31)) (.cells #[.bool false, .int .i64 (-1), .int .i64 0, .int .i64 xs, .bool xm] 35) (.cells #[.slice none 0 0, .int .i64 0] 28)
      simpa using this, heap_alloc_new' _ _ _ (by simp)⟩)
  rw [hw1]
  simp only [hg, Nat.add_assoc, Nat.reduceAdd]
  clear hw1 hg
  have HAT : Hid (∀ wx, Same w1 wx → Calls Try.prog 32 #[hv a n c many, .int .i64 sn] wx fun e w' => e = .returned (.int .i64 q) ∧ Same wx w') := Lib.hid (fun wx hx => (atC a n c many L sn wx ((HR.out.still HS1.out).still hx) (by omega)).mono (by
    rintro e w' ⟨r, rfl, hr, hs⟩
    rw [hq r hr]
    exact ⟨rfl, hs⟩))
  have a0_w1 : w1.cell? ⟨g, 0, none⟩ = some (.slice a n c) := block_cell (HB1.out).h0 rfl
  have a1_w1 : w1.cell? ⟨g, 1, none⟩ = some (.int .i64 (many : Int)) := block_cell (HB1.out).h0 rfl
  have b1_w1 : w1.cell? ⟨g + 1, 1, none⟩ = some (.int .i64 sn) := block_cell (HB1.out).h1 rfl
  have c1_w1 : w1.cell? ⟨g + 2, 1, none⟩ = some (.int .i64 (-1)) := block_cell (HB1.out).h2 rfl
  have c2_w1 : w1.cell? ⟨g + 2, 2, none⟩ = some (.int .i64 0) := block_cell (HB1.out).h2 rfl
  go_upto_region 2 with fail
  go_wp2_with fail
  refine (HAT.out _ (by first | exact Only.refl _ _ | exact (Only.refl _ _).drew)).mono ?_
  rintro e w2 ⟨rfl, hs2⟩
  have HS2 : Hid (Same w1 w2) := Lib.hid (by first | exact hs2 | exact (Only.drew (Only.refl (fun _ => False) w1)).trans hs2 (fun _ _ h => h))
  have HB2 := Lib.hid (HB1.out.still HS2.out)
  clear hs2 HAT a0_w1 a1_w1 b1_w1 c1_w1 c2_w1
  have a0_w2 : w2.cell? ⟨g, 0, none⟩ = some (.slice a n c) := block_cell (HB2.out).h0 rfl
  have a1_w2 : w2.cell? ⟨g, 1, none⟩ = some (.int .i64 (many : Int)) := block_cell (HB2.out).h0 rfl
  have b0_w2 : w2.cell? ⟨g + 1, 0, none⟩ = some (.int .i64 2) := block_cell (HB2.out).h1 rfl
  have b2_w2 : w2.cell? ⟨g + 1, 2, none⟩ = some (.int .i64 sp) := block_cell (HB2.out).h1 rfl
  have c0_w2 : w2.cell? ⟨g + 2, 0, none⟩ = some (.bool false) := block_cell (HB2.out).h2 rfl
  have c1_w2 : w2.cell? ⟨g + 2, 1, none⟩ = some (.int .i64 (-1)) := block_cell (HB2.out).h2 rfl
  have c2_w2 : w2.cell? ⟨g + 2, 2, none⟩ = some (.int .i64 0) := block_cell (HB2.out).h2 rfl
  have d0_w2 : w2.cell? ⟨g + 3, 0, none⟩ = some (.slice none 0 0) := block_cell (HB2.out).h3 rfl
  have d1_w2 : w2.cell? ⟨g + 3, 1, none⟩ = some (.int .i64 0) := block_cell (HB2.out).h3 rfl
  have f3_w2 : ∀ i, w2.frozen? ⟨g + 3, i, none⟩ = false := fun i => block_free (HB2.out).h3
  have lg_w2 : g + 3 < w2.heap.size := lt_of_heap (HB2.out).h3
  go_wp2_with fail
  obtain ⟨hd, hh⟩ := res_same (many := many) HR.out (HS1.out.trans HS2.out) HG.out (HB2.out.h3) (v := .tuple #[.agg #[.slice a n c, .int .i64 (many : Int)], .bool true]) rfl
  obtain ⟨w5, hw5⟩ : ∃ w5, ((w2.setCell ⟨g + 3, 0, none⟩ (.slice a n c)).setCell ⟨g + 3, 1, none⟩ (.int .i64 (many : Int))) = w5 := ⟨_, rfl⟩
  rw [hw5] at hd hh ⊢
  have u0 : w5.cell? ⟨g + 3, 0, none⟩ = some (.slice a n c) := block_cell hh rfl
  have u1 : w5.cell? ⟨g + 3, 1, none⟩ = some (.int .i64 (many : Int)) := block_cell hh rfl
  refine bodyPost_ret (v := .tuple #[.agg #[.slice a n c, .int .i64 (many : Int)], .bool true]) ?_ rfl hd
  exact res_does rfl rfl u0 u1
set_option maxRecDepth 100000 in
set_option maxHeartbeats 6400000 in
theorem does3o (a : Option Addr) (n c many : Nat) (L : List En) (sn sp : Int) (sv : Value) (hsv : sv.cells = #[sv]) (xs : Int) (xm : Bool) (w : World) (h : RE w a n c L) (hn : n ≤ 10000) (hm : many ≤ 10000) (hat : ∃ r, ∀ r', AtI L sn r' → r' = r) (h0 : n = 0) : Calls Try.prog 19 #[hv a n c many, .agg #[.int .i64 3, .int .i64 sn, .int .i64 sp, sv], .agg #[.bool false, .int .i64 (-1), .int .i64 0, .int .i64 xs, .bool xm]] w (DoP a L many w) := by
  have HR := Lib.hid h
  have hbd := h.bound
  clear h
  obtain ⟨q, hq⟩ := hat
  have hn0 : ((n : Int) == 0) = true := by rw [h0]; rfl
  clear h0
  go_enter Try.func19, Try.ntmps19
  go_upto_region 1 with fail
  obtain ⟨w1, hw1⟩ : ∃ w1, ((((w.alloc (.cells #[.slice a n c, .int .i64 (many : Int)] 28)).alloc (.cells #[.int .i64 3, .int .i64 sn, .int .i64 sp, sv] 31)).alloc (.cells #[.bool false, .int .i64 (-1), .int .i64 0, .int .i64 xs, .bool xm] 35)).alloc (.cells #[.slice none 0 0, .int .i64 0] 28)) = w1 := ⟨_, rfl⟩
  obtain ⟨g, hg⟩ : ∃ g, w.heap.size = g := ⟨_, rfl⟩
  have HG := Lib.hid hg
  have HS1 : Hid (Same w w1) := Lib.hid (by rw [← hw1]; exact ((((Only.refl _ _).alloc _).alloc _).alloc _).alloc _)
  have HB1 : Hid (Bx w1 g a n c many 3 sn sp sv false (-1) 0 xs xm) := Lib.hid (by
    have e1 := hw1
    rw [← e1, ← hg]
    exact ⟨((Only.refl (fun _ => False) _).alloc _).alloc _ |>.obj (heap_box _ _) id, by
      have := heap_box (w := w.alloc (.cells #[.slice a n c, .int .i64 (many : Int)] 28)) (.cells #[.int .i64 3, .int .i64 sn, .int .i64 sp, sv] 31) (.cells #[.bool false, .int .i64 (-1), .int .i64 0, .int .i64 xs, .bool xm] 35)
      exact ((Only.refl (fun _ => False) _).alloc _).obj (by simpa using this) id, by
      have := heap_box (w := (w.alloc (.cells #[.slice a n c, .int .i64 (many : Int)] 28)).alloc (.cells #[.int .i64 3, .int .i64 sn, .int .i64 sp, sv] 31)) (.cells #[.bool false, .int .i64 (-1), .int .i64 0, .int .i64 xs, .bool xm] 35) (.cells #[.slice none 0 0, .int .i64 0] 28)
      simpa using this, heap_alloc_new' _ _ _ (by simp)⟩)
  rw [hw1]
  simp only [hg, Nat.add_assoc, Nat.reduceAdd]
  clear hw1 hg
  have HAT : Hid (∀ wx, Same w1 wx → Calls Try.prog 32 #[hv a n c many, .int .i64 sn] wx fun e w' => e = .returned (.int .i64 q) ∧ Same wx w') := Lib.hid (fun wx hx => (atC a n c many L sn wx ((HR.out.still HS1.out).still hx) (by omega)).mono (by
    rintro e w' ⟨r, rfl, hr, hs⟩
    rw [hq r hr]
    exact ⟨rfl, hs⟩))
  have a0_w1 : w1.cell? ⟨g, 0, none⟩ = some (.slice a n c) := block_cell (HB1.out).h0 rfl
  have a1_w1 : w1.cell? ⟨g, 1, none⟩ = some (.int .i64 (many : Int)) := block_cell (HB1.out).h0 rfl
  have b1_w1 : w1.cell? ⟨g + 1, 1, none⟩ = some (.int .i64 sn) := block_cell (HB1.out).h1 rfl
  have c1_w1 : w1.cell? ⟨g + 2, 1, none⟩ = some (.int .i64 (-1)) := block_cell (HB1.out).h2 rfl
  have c2_w1 : w1.cell? ⟨g + 2, 2, none⟩ = some (.int .i64 0) := block_cell (HB1.out).h2 rfl
  go_upto_region 2 with fail
  go_wp2_with fail
  refine (HAT.out _ (by first | exact Only.refl _ _ | exact (Only.refl _ _).drew)).mono ?_
  rintro e w2 ⟨rfl, hs2⟩
  have HS2 : Hid (Same w1 w2) := Lib.hid (by first | exact hs2 | exact (Only.drew (Only.refl (fun _ => False) w1)).trans hs2 (fun _ _ h => h))
  have HB2 := Lib.hid (HB1.out.still HS2.out)
  clear hs2 HAT a0_w1 a1_w1 b1_w1 c1_w1 c2_w1
  have a0_w2 : w2.cell? ⟨g, 0, none⟩ = some (.slice a n c) := block_cell (HB2.out).h0 rfl
  have a1_w2 : w2.cell? ⟨g, 1, none⟩ = some (.int .i64 (many : Int)) := block_cell (HB2.out).h0 rfl
  have b0_w2 : w2.cell? ⟨g + 1, 0, none⟩ = some (.int .i64 3) := block_cell (HB2.out).h1 rfl
  have b2_w2 : w2.cell? ⟨g + 1, 2, none⟩ = some (.int .i64 sp) := block_cell (HB2.out).h1 rfl
  have c0_w2 : w2.cell? ⟨g + 2, 0, none⟩ = some (.bool false) := block_cell (HB2.out).h2 rfl
  have c1_w2 : w2.cell? ⟨g + 2, 1, none⟩ = some (.int .i64 (-1)) := block_cell (HB2.out).h2 rfl
  have c2_w2 : w2.cell? ⟨g + 2, 2, none⟩ = some (.int .i64 0) := block_cell (HB2.out).h2 rfl
  have d0_w2 : w2.cell? ⟨g + 3, 0, none⟩ = some (.slice none 0 0) := block_cell (HB2.out).h3 rfl
  have d1_w2 : w2.cell? ⟨g + 3, 1, none⟩ = some (.int .i64 0) := block_cell (HB2.out).h3 rfl
  have f3_w2 : ∀ i, w2.frozen? ⟨g + 3, i, none⟩ = false := fun i => block_free (HB2.out).h3
  have lg_w2 : g + 3 < w2.heap.size := lt_of_heap (HB2.out).h3
  go_wp2_with fail
  obtain ⟨hd, hh⟩ := res_same (many := many) HR.out (HS1.out.trans HS2.out) HG.out (HB2.out.h3) (v := .tuple #[.agg #[.slice a n c, .int .i64 (many : Int)], .bool true]) rfl
  obtain ⟨w5, hw5⟩ : ∃ w5, ((w2.setCell ⟨g + 3, 0, none⟩ (.slice a n c)).setCell ⟨g + 3, 1, none⟩ (.int .i64 (many : Int))) = w5 := ⟨_, rfl⟩
  rw [hw5] at hd hh ⊢
  have u0 : w5.cell? ⟨g + 3, 0, none⟩ = some (.slice a n c) := block_cell hh rfl
  have u1 : w5.cell? ⟨g + 3, 1, none⟩ = some (.int .i64 (many : Int)) := block_cell hh rfl
  refine bodyPost_ret (v := .tuple #[.agg #[.slice a n c, .int .i64 (many : Int)], .bool true]) ?_ rfl hd
  exact res_does rfl rfl u0 u1
end Go.Proofs.Ytpddddjfjmipfaa.fh

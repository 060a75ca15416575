/-
  arrays.step: further steps on a dense array.
-/
import Derived.Test.YtacjkbljokjdkaaBaNewAll
import Derived.Test.YtacjkbljokjdkaaBaClr
namespace Go.Proofs.Ytacjkbljokjdkaa.ba
open Go.RowKit Go.Proofs.Ytacjkbljokjdkaa.base Go.Proofs.Ytacjkbljokjdkaa.heap Go.Proofs.Ytacjkbljokjdkaa.rows Go.Proofs.Ytacjkbljokjdkaa.bit Go.Proofs.Ytacjkbljokjdkaa.bs
set_option linter.unusedVariables false
section
variable {w : World} {q c : Nat} {a : Option Addr} {l : List It}
set_option maxRecDepth 100000 in
set_option maxHeartbeats 1600000 in
theorem stepSetOut (h : Sta w q a c l) (i p : Nat) (d : BA) (F : Nat → Prop) (hx : l[i]? = some ⟨.iface 85 (.pointer (some ⟨p, 0, none⟩)), d, F⟩) (k : Nat)
    (HC : Hid (∀ wx, Same w wx → Calls Try.prog 63 #[.pointer (some ⟨p, 0, none⟩), .int .u64 (k : Int)] wx (FV wx (.iface 120 (.int .u64 (k : Int)))))) :
    Calls Try.prog 24 #[.pointer (some ⟨q, 0, none⟩), stv { op := 3, on := i, k := k }] w (FV w (.agg #[.bool false, .int .u64 0, .slice none 0 0, .bool false])) := by
  have HAT : Hid (∀ wx, Same w wx → Calls Try.prog 29 #[.pointer (some ⟨q, 0, none⟩), .int .i64 (i : Int)] wx (FV wx (.iface 85 (.pointer (some ⟨p, 0, none⟩))))) := Lib.hid (fun wx hS => atA (h.still hS) i _ hx)
  have hmth : ∀ wx, (method 255 85 (.pointer (some ⟨p, 0, none⟩)) "SetBit").run Try.prog wx = .ok (63, .pointer (some ⟨p, 0, none⟩)) wx := by intro wx; kernel_rfl
  clear h hx
  unfold stv
  simp only
  go_enter_defers Try.func24, Try.ntmps24
  go_wp2_with (go_at_call 29; refine (HAT.out _ ((Only.refl _ _).alloc _ |>.alloc _)).mono ?_)
  rintro e w1 ⟨rfl, hS1⟩
  obtain ⟨m1, m2, m3⟩ := step_made (w := w) (.cells #[.int .i64 (3 : Int), .int .i64 (i : Int), .int .i64 0, .int .u64 (k : Int), .int .i64 0, .bool false] 27) (.cells #[.bool false, .int .u64 0, .slice none 0 0, .bool false] 46)
  have n1 := hS1.obj m2 id
  have n2 := hS1.obj m3 id
  have HS1 : Hid (Same w w1) := Lib.hid (Same.trans m1 hS1)
  obtain ⟨s, hs⟩ : ∃ s, w.heap.size = s := ⟨_, rfl⟩
  obtain ⟨r, hr⟩ : ∃ r, w.heap.size + 1 = r := ⟨_, rfl⟩
  have HR : Hid (w.heap.size ≤ r ∧ s ≠ r ∧ w.heap.size ≤ s) := Lib.hid (by omega)
  rw [hs] at n1
  rw [hr] at n2
  rw [hr, hs]
  have c0 : w1.cell? ⟨s, 0, none⟩ = some (.int .i64 3) := block_cell n1 rfl
  have c3 : w1.cell? ⟨s, 3, none⟩ = some (.int .u64 (k : Int)) := block_cell n1 rfl
  have N1 := Lib.hid n1
  have N2 := Lib.hid n2
  clear m1 m2 m3 hS1 n1 n2 HAT
  go_wp2_with (go_at_call 63; refine (HC.out _ HS1.out).mono ?_)
  rintro e w2 ⟨rfl, hS2⟩
  have N3 : Hid (w2.heap[r]? = _) := Lib.hid (hS2.obj N2.out id)
  have HS2 : Hid (Same w w2) := Lib.hid (Same.trans HS1.out hS2)
  have f1 : ∀ j, w2.frozen? ⟨r, j, none⟩ = false := fun j => block_free N3.out
  have d0 : w2.cell? ⟨r, 0, none⟩ = some (.bool false) := block_cell N3.out rfl
  have d1 : w2.cell? ⟨r, 1, none⟩ = some (.int .u64 0) := block_cell N3.out rfl
  have d2 : w2.cell? ⟨r, 2, none⟩ = some (.slice none 0 0) := block_cell N3.out rfl
  have d3 : w2.cell? ⟨r, 3, none⟩ = some (.bool false) := block_cell N3.out rfl
  clear N2 hS2 HS1
  go_wp2_with fail
  exact step_end rfl (stored4 (setCell_heap N3.out 0 _) _ _ _ _) ⟨rfl, same4 ((HS2.out).setCell _ _ (fun h => absurd HR.out.1 (by simp at h; omega))) HR.out.1 _ _ _ _⟩
set_option maxRecDepth 100000 in
set_option maxHeartbeats 1600000 in
theorem stepClearOut (h : Sta w q a c l) (i p : Nat) (d : BA) (F : Nat → Prop) (hx : l[i]? = some ⟨.iface 85 (.pointer (some ⟨p, 0, none⟩)), d, F⟩) (k : Nat)
    (HC : Hid (∀ wx, Same w wx → Calls Try.prog 53 #[.pointer (some ⟨p, 0, none⟩), .int .u64 (k : Int)] wx (FV wx (.iface 120 (.int .u64 (k : Int)))))) :
    Calls Try.prog 24 #[.pointer (some ⟨q, 0, none⟩), stv { op := 4, on := i, k := k }] w (FV w (.agg #[.bool false, .int .u64 0, .slice none 0 0, .bool false])) := by
  have HAT : Hid (∀ wx, Same w wx → Calls Try.prog 29 #[.pointer (some ⟨q, 0, none⟩), .int .i64 (i : Int)] wx (FV wx (.iface 85 (.pointer (some ⟨p, 0, none⟩))))) := Lib.hid (fun wx hS => atA (h.still hS) i _ hx)
  have hmth : ∀ wx, (method 255 85 (.pointer (some ⟨p, 0, none⟩)) "ClearBit").run Try.prog wx = .ok (53, .pointer (some ⟨p, 0, none⟩)) wx := by intro wx; kernel_rfl
  clear h hx
  unfold stv
  simp only
  go_enter_defers Try.func24, Try.ntmps24
  go_wp2_with (go_at_call 29; refine (HAT.out _ ((Only.refl _ _).alloc _ |>.alloc _)).mono ?_)
  rintro e w1 ⟨rfl, hS1⟩
  obtain ⟨m1, m2, m3⟩ := step_made (w := w) (.cells #[.int .i64 (4 : Int), .int .i64 (i : Int), .int .i64 0, .int .u64 (k : Int), .int .i64 0, .bool false] 27) (.cells #[.bool false, .int .u64 0, .slice none 0 0, .bool false] 46)
  have n1 := hS1.obj m2 id
  have n2 := hS1.obj m3 id
  have HS1 : Hid (Same w w1) := Lib.hid (Same.trans m1 hS1)
  obtain ⟨s, hs⟩ : ∃ s, w.heap.size = s := ⟨_, rfl⟩
  obtain ⟨r, hr⟩ : ∃ r, w.heap.size + 1 = r := ⟨_, rfl⟩
  have HR : Hid (w.heap.size ≤ r ∧ s ≠ r ∧ w.heap.size ≤ s) := Lib.hid (by omega)
  rw [hs] at n1
  rw [hr] at n2
  rw [hr, hs]
  have c0 : w1.cell? ⟨s, 0, none⟩ = some (.int .i64 4) := block_cell n1 rfl
  have c3 : w1.cell? ⟨s, 3, none⟩ = some (.int .u64 (k : Int)) := block_cell n1 rfl
  have N1 := Lib.hid n1
  have N2 := Lib.hid n2
  clear m1 m2 m3 hS1 n1 n2 HAT
  go_wp2_with (go_at_call 53; refine (HC.out _ HS1.out).mono ?_)
  rintro e w2 ⟨rfl, hS2⟩
  have N3 : Hid (w2.heap[r]? = _) := Lib.hid (hS2.obj N2.out id)
  have HS2 : Hid (Same w w2) := Lib.hid (Same.trans HS1.out hS2)
  have f1 : ∀ j, w2.frozen? ⟨r, j, none⟩ = false := fun j => block_free N3.out
  have d0 : w2.cell? ⟨r, 0, none⟩ = some (.bool false) := block_cell N3.out rfl
  have d1 : w2.cell? ⟨r, 1, none⟩ = some (.int .u64 0) := block_cell N3.out rfl
  have d2 : w2.cell? ⟨r, 2, none⟩ = some (.slice none 0 0) := block_cell N3.out rfl
  have d3 : w2.cell? ⟨r, 3, none⟩ = some (.bool false) := block_cell N3.out rfl
  clear N2 hS2 HS1
  go_wp2_with fail
  exact step_end rfl (stored4 (setCell_heap N3.out 0 _) _ _ _ _) ⟨rfl, same4 ((HS2.out).setCell _ _ (fun h => absurd HR.out.1 (by simp at h; omega))) HR.out.1 _ _ _ _⟩
set_option maxRecDepth 100000 in
set_option maxHeartbeats 1600000 in
theorem stepGetOut (h : Sta w q a c l) (i p : Nat) (d : BA) (F : Nat → Prop) (hx : l[i]? = some ⟨.iface 85 (.pointer (some ⟨p, 0, none⟩)), d, F⟩) (k : Nat)
    (HC : Hid (∀ wx, Same w wx → Calls Try.prog 56 #[.pointer (some ⟨p, 0, none⟩), .int .u64 (k : Int)] wx (FV wx (.tuple #[.bool false, .iface 120 (.int .u64 (k : Int))])))) :
    Calls Try.prog 24 #[.pointer (some ⟨q, 0, none⟩), stv { op := 5, on := i, k := k }] w (FV w (.agg #[.bool false, .int .u64 0, .slice none 0 0, .bool false])) := by
  have HAT : Hid (∀ wx, Same w wx → Calls Try.prog 29 #[.pointer (some ⟨q, 0, none⟩), .int .i64 (i : Int)] wx (FV wx (.iface 85 (.pointer (some ⟨p, 0, none⟩))))) := Lib.hid (fun wx hS => atA (h.still hS) i _ hx)
  have hmth : ∀ wx, (method 255 85 (.pointer (some ⟨p, 0, none⟩)) "GetBit").run Try.prog wx = .ok (56, .pointer (some ⟨p, 0, none⟩)) wx := by intro wx; kernel_rfl
  clear h hx
  unfold stv
  simp only
  go_enter_defers Try.func24, Try.ntmps24
  go_wp2_with (go_at_call 29; refine (HAT.out _ ((Only.refl _ _).alloc _ |>.alloc _)).mono ?_)
  rintro e w1 ⟨rfl, hS1⟩
  obtain ⟨m1, m2, m3⟩ := step_made (w := w) (.cells #[.int .i64 (5 : Int), .int .i64 (i : Int), .int .i64 0, .int .u64 (k : Int), .int .i64 0, .bool false] 27) (.cells #[.bool false, .int .u64 0, .slice none 0 0, .bool false] 46)
  have n1 := hS1.obj m2 id
  have n2 := hS1.obj m3 id
  have HS1 : Hid (Same w w1) := Lib.hid (Same.trans m1 hS1)
  obtain ⟨s, hs⟩ : ∃ s, w.heap.size = s := ⟨_, rfl⟩
  obtain ⟨r, hr⟩ : ∃ r, w.heap.size + 1 = r := ⟨_, rfl⟩
  have HR : Hid (w.heap.size ≤ r ∧ s ≠ r ∧ w.heap.size ≤ s) := Lib.hid (by omega)
  rw [hs] at n1
  rw [hr] at n2
  rw [hr, hs]
  have c0 : w1.cell? ⟨s, 0, none⟩ = some (.int .i64 5) := block_cell n1 rfl
  have c3 : w1.cell? ⟨s, 3, none⟩ = some (.int .u64 (k : Int)) := block_cell n1 rfl
  have N1 := Lib.hid n1
  have N2 := Lib.hid n2
  clear m1 m2 m3 hS1 n1 n2 HAT
  go_wp2_with (go_at_call 56; refine (HC.out _ HS1.out).mono ?_)
  rintro e w2 ⟨rfl, hS2⟩
  have N3 : Hid (w2.heap[r]? = _) := Lib.hid (hS2.obj N2.out id)
  have HS2 : Hid (Same w w2) := Lib.hid (Same.trans HS1.out hS2)
  have f1 : ∀ j, w2.frozen? ⟨r, j, none⟩ = false := fun j => block_free N3.out
  have d0 : w2.cell? ⟨r, 0, none⟩ = some (.bool false) := block_cell N3.out rfl
  have d1 : w2.cell? ⟨r, 1, none⟩ = some (.int .u64 0) := block_cell N3.out rfl
  have d2 : w2.cell? ⟨r, 2, none⟩ = some (.slice none 0 0) := block_cell N3.out rfl
  have d3 : w2.cell? ⟨r, 3, none⟩ = some (.bool false) := block_cell N3.out rfl
  clear N2 hS2 HS1
  go_wp2_with fail
  exact step_end rfl (stored4 (setCell_heap N3.out 0 _) _ _ _ _) ⟨rfl, same4 ((HS2.out).setCell _ _ (fun h => absurd HR.out.1 (by simp at h; omega))) HR.out.1 _ _ _ _⟩
set_option maxRecDepth 100000 in
set_option maxHeartbeats 1600000 in
theorem stepGetNo (h : Sta w q a c l) (i p : Nat) (d : BA) (F : Nat → Prop) (hx : l[i]? = some ⟨.iface 85 (.pointer (some ⟨p, 0, none⟩)), d, F⟩) (k : Nat)
    (HC : Hid (∀ wx, Same w wx → Calls Try.prog 56 #[.pointer (some ⟨p, 0, none⟩), .int .u64 (k : Int)] wx (FV wx (.tuple #[.bool false, .nilIface])))) :
    Calls Try.prog 24 #[.pointer (some ⟨q, 0, none⟩), stv { op := 5, on := i, k := k }] w (FV w (.agg #[.bool true, .int .u64 0, .slice none 0 0, .bool false])) := by
  have HAT : Hid (∀ wx, Same w wx → Calls Try.prog 29 #[.pointer (some ⟨q, 0, none⟩), .int .i64 (i : Int)] wx (FV wx (.iface 85 (.pointer (some ⟨p, 0, none⟩))))) := Lib.hid (fun wx hS => atA (h.still hS) i _ hx)
  have hmth : ∀ wx, (method 255 85 (.pointer (some ⟨p, 0, none⟩)) "GetBit").run Try.prog wx = .ok (56, .pointer (some ⟨p, 0, none⟩)) wx := by intro wx; kernel_rfl
  clear h hx
  unfold stv
  simp only
  go_enter_defers Try.func24, Try.ntmps24
  go_wp2_with (go_at_call 29; refine (HAT.out _ ((Only.refl _ _).alloc _ |>.alloc _)).mono ?_)
  rintro e w1 ⟨rfl, hS1⟩
  obtain ⟨m1, m2, m3⟩ := step_made (w := w) (.cells #[.int .i64 (5 : Int), .int .i64 (i : Int), .int .i64 0, .int .u64 (k : Int), .int .i64 0, .bool false] 27) (.cells #[.bool false, .int .u64 0, .slice none 0 0, .bool false] 46)
  have n1 := hS1.obj m2 id
  have n2 := hS1.obj m3 id
  have HS1 : Hid (Same w w1) := Lib.hid (Same.trans m1 hS1)
  obtain ⟨s, hs⟩ : ∃ s, w.heap.size = s := ⟨_, rfl⟩
  obtain ⟨r, hr⟩ : ∃ r, w.heap.size + 1 = r := ⟨_, rfl⟩
  have HR : Hid (w.heap.size ≤ r ∧ s ≠ r ∧ w.heap.size ≤ s) := Lib.hid (by omega)
  rw [hs] at n1
  rw [hr] at n2
  rw [hr, hs]
  have c0 : w1.cell? ⟨s, 0, none⟩ = some (.int .i64 5) := block_cell n1 rfl
  have c3 : w1.cell? ⟨s, 3, none⟩ = some (.int .u64 (k : Int)) := block_cell n1 rfl
  have N1 := Lib.hid n1
  have N2 := Lib.hid n2
  clear m1 m2 m3 hS1 n1 n2 HAT
  go_wp2_with (go_at_call 56; refine (HC.out _ HS1.out).mono ?_)
  rintro e w2 ⟨rfl, hS2⟩
  have N3 : Hid (w2.heap[r]? = _) := Lib.hid (hS2.obj N2.out id)
  have HS2 : Hid (Same w w2) := Lib.hid (Same.trans HS1.out hS2)
  have f1 : ∀ j, w2.frozen? ⟨r, j, none⟩ = false := fun j => block_free N3.out
  have d0 : w2.cell? ⟨r, 0, none⟩ = some (.bool false) := block_cell N3.out rfl
  have d1 : w2.cell? ⟨r, 1, none⟩ = some (.int .u64 0) := block_cell N3.out rfl
  have d2 : w2.cell? ⟨r, 2, none⟩ = some (.slice none 0 0) := block_cell N3.out rfl
  have d3 : w2.cell? ⟨r, 3, none⟩ = some (.bool false) := block_cell N3.out rfl
  clear N2 hS2 HS1
  go_wp2_with fail
  exact step_end rfl (stored4 (setCell_heap N3.out 0 _) _ _ _ _) ⟨rfl, same4 ((HS2.out).setCell _ _ (fun h => absurd HR.out.1 (by simp at h; omega))) HR.out.1 _ _ _ _⟩
set_option maxRecDepth 100000 in
set_option maxHeartbeats 1600000 in
theorem stepGetYes (h : Sta w q a c l) (i p : Nat) (d : BA) (F : Nat → Prop) (hx : l[i]? = some ⟨.iface 85 (.pointer (some ⟨p, 0, none⟩)), d, F⟩) (k : Nat)
    (HC : Hid (∀ wx, Same w wx → Calls Try.prog 56 #[.pointer (some ⟨p, 0, none⟩), .int .u64 (k : Int)] wx (FV wx (.tuple #[.bool true, .nilIface])))) :
    Calls Try.prog 24 #[.pointer (some ⟨q, 0, none⟩), stv { op := 5, on := i, k := k }] w (FV w (.agg #[.bool true, .int .u64 1, .slice none 0 0, .bool false])) := by
  have HAT : Hid (∀ wx, Same w wx → Calls Try.prog 29 #[.pointer (some ⟨q, 0, none⟩), .int .i64 (i : Int)] wx (FV wx (.iface 85 (.pointer (some ⟨p, 0, none⟩))))) := Lib.hid (fun wx hS => atA (h.still hS) i _ hx)
  have hmth : ∀ wx, (method 255 85 (.pointer (some ⟨p, 0, none⟩)) "GetBit").run Try.prog wx = .ok (56, .pointer (some ⟨p, 0, none⟩)) wx := by intro wx; kernel_rfl
  clear h hx
  unfold stv
  simp only
  go_enter_defers Try.func24, Try.ntmps24
  go_wp2_with (go_at_call 29; refine (HAT.out _ ((Only.refl _ _).alloc _ |>.alloc _)).mono ?_)
  rintro e w1 ⟨rfl, hS1⟩
  obtain ⟨m1, m2, m3⟩ := step_made (w := w) (.cells #[.int .i64 (5 : Int), .int .i64 (i : Int), .int .i64 0, .int .u64 (k : Int), .int .i64 0, .bool false] 27) (.cells #[.bool false, .int .u64 0, .slice none 0 0, .bool false] 46)
  have n1 := hS1.obj m2 id
  have n2 := hS1.obj m3 id
  have HS1 : Hid (Same w w1) := Lib.hid (Same.trans m1 hS1)
  obtain ⟨s, hs⟩ : ∃ s, w.heap.size = s := ⟨_, rfl⟩
  obtain ⟨r, hr⟩ : ∃ r, w.heap.size + 1 = r := ⟨_, rfl⟩
  have HR : Hid (w.heap.size ≤ r ∧ s ≠ r ∧ w.heap.size ≤ s) := Lib.hid (by omega)
  rw [hs] at n1
  rw [hr] at n2
  rw [hr, hs]
  have c0 : w1.cell? ⟨s, 0, none⟩ = some (.int .i64 5) := block_cell n1 rfl
  have c3 : w1.cell? ⟨s, 3, none⟩ = some (.int .u64 (k : Int)) := block_cell n1 rfl
  have N1 := Lib.hid n1
  have N2 := Lib.hid n2
  clear m1 m2 m3 hS1 n1 n2 HAT
  go_wp2_with (go_at_call 56; refine (HC.out _ HS1.out).mono ?_)
  rintro e w2 ⟨rfl, hS2⟩
  have N3 : Hid (w2.heap[r]? = _) := Lib.hid (hS2.obj N2.out id)
  have HS2 : Hid (Same w w2) := Lib.hid (Same.trans HS1.out hS2)
  have f1 : ∀ j, w2.frozen? ⟨r, j, none⟩ = false := fun j => block_free N3.out
  have d0 : w2.cell? ⟨r, 0, none⟩ = some (.bool false) := block_cell N3.out rfl
  have d1 : w2.cell? ⟨r, 1, none⟩ = some (.int .u64 0) := block_cell N3.out rfl
  have d2 : w2.cell? ⟨r, 2, none⟩ = some (.slice none 0 0) := block_cell N3.out rfl
  have d3 : w2.cell? ⟨r, 3, none⟩ = some (.bool false) := block_cell N3.out rfl
  clear N2 hS2 HS1
  go_wp2_with fail
  exact step_end rfl (stored4 (setCell_heap (setCell_heap N3.out 0 _) 1 _) _ _ _ _) ⟨rfl, same4 (((HS2.out).setCell _ _ (fun h => absurd HR.out.1 (by simp at h; omega))).setCell _ _ (fun h => absurd HR.out.1 (by simp at h; omega))) HR.out.1 _ _ _ _⟩
set_option maxRecDepth 100000 in
set_option maxHeartbeats 1600000 in
theorem stepClear (h : Sta w q a c l) (i p : Nat) (d : BA) (F : Nat → Prop) (hx : l[i]? = some ⟨.iface 85 (.pointer (some ⟨p, 0, none⟩)), d, F⟩) (k : Nat) (d' : BA)
    (HC : Hid (∀ wx, Same w wx → Calls Try.prog 53 #[.pointer (some ⟨p, 0, none⟩), .int .u64 (k : Int)] wx (Turn (.nilIface) F (.iface 85 (.pointer (some ⟨p, 0, none⟩))) d' wx))) :
    Calls Try.prog 24 #[.pointer (some ⟨q, 0, none⟩), stv { op := 4, on := i, k := k }] w (Turn (.agg #[.bool true, .int .u64 0, .slice none 0 0, .bool false]) F (.iface 85 (.pointer (some ⟨p, 0, none⟩))) d' w) := by
  have HF := Lib.hid (h.get hx).lt
  have HAT : Hid (∀ wx, Same w wx → Calls Try.prog 29 #[.pointer (some ⟨q, 0, none⟩), .int .i64 (i : Int)] wx (FV wx (.iface 85 (.pointer (some ⟨p, 0, none⟩))))) := Lib.hid (fun wx hS => atA (h.still hS) i _ hx)
  have hmth : ∀ wx, (method 255 85 (.pointer (some ⟨p, 0, none⟩)) "ClearBit").run Try.prog wx = .ok (53, .pointer (some ⟨p, 0, none⟩)) wx := by intro wx; kernel_rfl
  clear h hx
  unfold stv
  simp only
  go_enter_defers Try.func24, Try.ntmps24
  go_wp2_with (go_at_call 29; refine (HAT.out _ ((Only.refl _ _).alloc _ |>.alloc _)).mono ?_)
  rintro e w1 ⟨rfl, hS1⟩
  obtain ⟨m1, m2, m3⟩ := step_made (w := w) (.cells #[.int .i64 (4 : Int), .int .i64 (i : Int), .int .i64 0, .int .u64 (k : Int), .int .i64 0, .bool false] 27) (.cells #[.bool false, .int .u64 0, .slice none 0 0, .bool false] 46)
  have n1 := hS1.obj m2 id
  have n2 := hS1.obj m3 id
  have HS1 : Hid (Same w w1) := Lib.hid (Same.trans m1 hS1)
  obtain ⟨s, hs⟩ : ∃ s, w.heap.size = s := ⟨_, rfl⟩
  obtain ⟨r, hr⟩ : ∃ r, w.heap.size + 1 = r := ⟨_, rfl⟩
  have HR : Hid (w.heap.size ≤ r ∧ s ≠ r ∧ w.heap.size ≤ s) := Lib.hid (by omega)
  rw [hs] at n1
  rw [hr] at n2
  rw [hr, hs]
  have c0 : w1.cell? ⟨s, 0, none⟩ = some (.int .i64 4) := block_cell n1 rfl
  have c3 : w1.cell? ⟨s, 3, none⟩ = some (.int .u64 (k : Int)) := block_cell n1 rfl
  have N1 := Lib.hid n1
  have N2 := Lib.hid n2
  clear m1 m2 m3 hS1 n1 n2 HAT
  go_wp2_with (go_at_call 53; refine (HC.out _ HS1.out).mono ?_)
  rintro e w2 ⟨rfl, hO2, F', hA, hF'⟩
  have hrF : ¬ F r ∧ ¬ F' r := ⟨fun h => by have := HF.out r h; have := HR.out.1; omega, fun h => by
    rcases hF' r h with h1 | h1
    · have := HF.out r h1; have := HR.out.1; omega
    · have := lt_of_heap N2.out; omega⟩
  have N3 : Hid (w2.heap[r]? = _) := Lib.hid (hO2.obj N2.out hrF.1)
  have HO2 : Hid (Only F w w2 ∧ Arr w2 (.iface 85 (.pointer (some ⟨p, 0, none⟩))) d' F' ∧ (∀ k, F' k → F k ∨ w.heap.size ≤ k) ∧ ¬ F' r) := Lib.hid ⟨(HS1.out.mono (fun _ _ f => f.elim)).trans hO2 (fun _ _ h => h), hA, fun k hk => (hF' k hk).imp id (fun h => Nat.le_trans HS1.out.size h), hrF.2⟩
  have f1 : ∀ j, w2.frozen? ⟨r, j, none⟩ = false := fun j => block_free N3.out
  have d0 : w2.cell? ⟨r, 0, none⟩ = some (.bool false) := block_cell N3.out rfl
  have d1 : w2.cell? ⟨r, 1, none⟩ = some (.int .u64 0) := block_cell N3.out rfl
  have d2 : w2.cell? ⟨r, 2, none⟩ = some (.slice none 0 0) := block_cell N3.out rfl
  have d3 : w2.cell? ⟨r, 3, none⟩ = some (.bool false) := block_cell N3.out rfl
  clear N2 hO2 HS1 hA hF' hrF
  go_wp2_with fail
  have hOr : ∀ v, Only (fun k => k = r) w2 (((((w2.setCell ⟨r, 0, none⟩ v).setCell ⟨r, 0, none⟩ v).setCell ⟨r, 1, none⟩ (.int .u64 0)).setCell ⟨r, 2, none⟩ (.slice none 0 0)).setCell ⟨r, 3, none⟩ (.bool false)) := fun v => by
    repeat (first | exact Only.refl _ _ | refine Only.setCell ?_ _ _ (fun _ => rfl))
  exact step_end rfl (stored4 (setCell_heap N3.out 0 _) _ _ _ _) ⟨rfl, HO2.out.1.trans (hOr _) (fun k hk e => absurd HR.out.1 (by omega)), F', HO2.out.2.1.keep (hOr _) (fun k hk e => HO2.out.2.2.2 (by rw [← e]; exact hk)), HO2.out.2.2.1⟩
set_option maxRecDepth 100000 in
set_option maxHeartbeats 1600000 in
theorem stepReset (h : Sta w q a c l) (i p : Nat) (d : BA) (F : Nat → Prop) (hx : l[i]? = some ⟨.iface 85 (.pointer (some ⟨p, 0, none⟩)), d, F⟩) (d' : BA)
    (HC : Hid (∀ wx, Same w wx → Calls Try.prog 62 #[.pointer (some ⟨p, 0, none⟩)] wx (Turn (.tuple #[]) F (.iface 85 (.pointer (some ⟨p, 0, none⟩))) d' wx))) :
    Calls Try.prog 24 #[.pointer (some ⟨q, 0, none⟩), stv { op := 6, on := i }] w (Turn (.agg #[.bool false, .int .u64 0, .slice none 0 0, .bool false]) F (.iface 85 (.pointer (some ⟨p, 0, none⟩))) d' w) := by
  have HF := Lib.hid (h.get hx).lt
  have HAT : Hid (∀ wx, Same w wx → Calls Try.prog 29 #[.pointer (some ⟨q, 0, none⟩), .int .i64 (i : Int)] wx (FV wx (.iface 85 (.pointer (some ⟨p, 0, none⟩))))) := Lib.hid (fun wx hS => atA (h.still hS) i _ hx)
  have hmth : ∀ wx, (method 255 85 (.pointer (some ⟨p, 0, none⟩)) "Reset").run Try.prog wx = .ok (62, .pointer (some ⟨p, 0, none⟩)) wx := by intro wx; kernel_rfl
  clear h hx
  unfold stv
  simp only
  go_enter_defers Try.func24, Try.ntmps24
  go_wp2_with (go_at_call 29; refine (HAT.out _ ((Only.refl _ _).alloc _ |>.alloc _)).mono ?_)
  rintro e w1 ⟨rfl, hS1⟩
  obtain ⟨m1, m2, m3⟩ := step_made (w := w) (.cells #[.int .i64 (6 : Int), .int .i64 (i : Int), .int .i64 0, .int .u64 0, .int .i64 0, .bool false] 27) (.cells #[.bool false, .int .u64 0, .slice none 0 0, .bool false] 46)
  have n1 := hS1.obj m2 id
  have n2 := hS1.obj m3 id
  have HS1 : Hid (Same w w1) := Lib.hid (Same.trans m1 hS1)
  obtain ⟨s, hs⟩ : ∃ s, w.heap.size = s := ⟨_, rfl⟩
  obtain ⟨r, hr⟩ : ∃ r, w.heap.size + 1 = r := ⟨_, rfl⟩
  have HR : Hid (w.heap.size ≤ r ∧ s ≠ r ∧ w.heap.size ≤ s) := Lib.hid (by omega)
  rw [hs] at n1
  rw [hr] at n2
  rw [hr, hs]
  have c0 : w1.cell? ⟨s, 0, none⟩ = some (.int .i64 6) := block_cell n1 rfl
  have c3 : w1.cell? ⟨s, 3, none⟩ = some (.int .u64 0) := block_cell n1 rfl
  have N1 := Lib.hid n1
  have N2 := Lib.hid n2
  clear m1 m2 m3 hS1 n1 n2 HAT
  go_wp2_with (go_at_call 62; refine (HC.out _ HS1.out).mono ?_)
  rintro e w2 ⟨rfl, hO2, F', hA, hF'⟩
  have hrF : ¬ F r ∧ ¬ F' r := ⟨fun h => by have := HF.out r h; have := HR.out.1; omega, fun h => by
    rcases hF' r h with h1 | h1
    · have := HF.out r h1; have := HR.out.1; omega
    · have := lt_of_heap N2.out; omega⟩
  have N3 : Hid (w2.heap[r]? = _) := Lib.hid (hO2.obj N2.out hrF.1)
  have HO2 : Hid (Only F w w2 ∧ Arr w2 (.iface 85 (.pointer (some ⟨p, 0, none⟩))) d' F' ∧ (∀ k, F' k → F k ∨ w.heap.size ≤ k) ∧ ¬ F' r) := Lib.hid ⟨(HS1.out.mono (fun _ _ f => f.elim)).trans hO2 (fun _ _ h => h), hA, fun k hk => (hF' k hk).imp id (fun h => Nat.le_trans HS1.out.size h), hrF.2⟩
  have f1 : ∀ j, w2.frozen? ⟨r, j, none⟩ = false := fun j => block_free N3.out
  have d0 : w2.cell? ⟨r, 0, none⟩ = some (.bool false) := block_cell N3.out rfl
  have d1 : w2.cell? ⟨r, 1, none⟩ = some (.int .u64 0) := block_cell N3.out rfl
  have d2 : w2.cell? ⟨r, 2, none⟩ = some (.slice none 0 0) := block_cell N3.out rfl
  have d3 : w2.cell? ⟨r, 3, none⟩ = some (.bool false) := block_cell N3.out rfl
  clear N2 hO2 HS1 hA hF' hrF
  go_wp2_with fail
  have hOr : ∀ v, Only (fun k => k = r) w2 ((((w2.setCell ⟨r, 0, none⟩ v).setCell ⟨r, 1, none⟩ (.int .u64 0)).setCell ⟨r, 2, none⟩ (.slice none 0 0)).setCell ⟨r, 3, none⟩ (.bool false)) := fun v => by
    repeat (first | exact Only.refl _ _ | refine Only.setCell ?_ _ _ (fun _ => rfl))
  exact step_end rfl (stored4 N3.out _ _ _ _) ⟨rfl, HO2.out.1.trans (hOr _) (fun k hk e => absurd HR.out.1 (by omega)), F', HO2.out.2.1.keep (hOr _) (fun k hk e => HO2.out.2.2.2 (by rw [← e]; exact hk)), HO2.out.2.2.1⟩
set_option maxRecDepth 100000 in
set_option maxHeartbeats 1600000 in
theorem stepDenseAll (h : Sta w q a c l) (hl : l.length ≤ 1000000) (k : Nat) (hk : k ≤ 64000000) (hk1 : 1 ≤ k) :
    Calls Try.prog 24 #[.pointer (some ⟨q, 0, none⟩), stv { op := 1, k := k, all := true }] w (MoreP q a l ⟨true, (k + 63) / 64, List.range (64 * ((k + 63) / 64))⟩ (.agg #[.bool false, .int .u64 0, .slice none 0 0, .bool false]) w) := by
  have HNB : Hid (∀ ab ao wx, wx.cell? ⟨ab, ao, none⟩ = some (.bool true) → Calls Try.prog 27 #[.int .u64 (k : Int), .slice (some ⟨ab, ao, none⟩) 1 1] wx (NewA ⟨true, (k + 63) / 64, List.range (64 * ((k + 63) / 64))⟩ wx)) := Lib.hid (fun ab ao wx h2 => newBA1 k hk hk1 ab ao 1 wx h2)
  have H := Lib.hid h
  have HL := Lib.hid h.lt
  obtain ⟨n, hn⟩ : ∃ n, (k + 63) / 64 = n := ⟨_, rfl⟩
  rw [hn] at HNB ⊢
  clear h
  unfold stv
  simp only
  go_enter_defers Try.func24, Try.ntmps24
  go_wp2_with (go_at_call 27; refine (HNB.out _ _ _ ?_).mono ?_)
  · exact block_cell (b := w.heap.size + 1 + 1) (heap_alloc_new' _ _ _ (by rw [World.size_alloc, World.size_alloc])) rfl
  rintro e w2 ⟨t, u, F, rfl, hA, hS2, hF2⟩
  obtain ⟨m1, m2⟩ := step_made3 (w := w) (.cells #[.int .i64 1, .int .i64 0, .int .i64 0, .int .u64 (k : Int), .int .i64 0, .bool true] 27) (.cells #[.bool false, .int .u64 0, .slice none 0 0, .bool false] 46) (.cells #[.bool true] 4)
  have HM := Lib.hid (madeN (H.out.still m1) hl (Only.refl _ _) hA hS2 hF2)
  have HSC := Lib.hid (And.intro m1 m2)
  have n2 := hS2.obj m2 id
  clear m1 m2 hA hF2 hS2
  go_wp2_with (go_at_call 26; refine HM.out.mono ?_)
  intro e w3 h3
  have hrq : ¬ (w.heap.size + 1 = q ∨ At a (w.heap.size + 1)) := fun h => by
    have := HL.out (w.heap.size + 1) (h.imp id .inl); omega
  have HO2 := h3.2
  obtain ⟨_, _, _, _, _, ho, _⟩ := HO2
  have N3 : Hid (w3.heap[w.heap.size + 1]? = _) := Lib.hid (ho.obj HSC.out.2 hrq)
  have HFIN : Hid (∀ w', Only (fun k => k = w.heap.size + 1) w3 w' → MoreP q a l ⟨true, n, List.range (64 * n)⟩ (.agg #[.bool false, .int .u64 0, .slice none 0 0, .bool false]) w (.returned (.agg #[.bool false, .int .u64 0, .slice none 0 0, .bool false])) w') := Lib.hid (fun w' hw => more_end HL.out HSC.out.1 (by omega) (lt_of_heap HSC.out.2) h3 hw)
  obtain ⟨rfl, _⟩ := h3
  clear ho hrq HM HSC n2
  obtain ⟨s, hs⟩ : ∃ s, w.heap.size = s := ⟨_, rfl⟩
  rw [hs] at N3 HFIN ⊢
  obtain ⟨r, hr⟩ : ∃ r, s + 1 = r := ⟨_, rfl⟩
  rw [hr] at N3 HFIN ⊢
  have f1 : ∀ j, w3.frozen? ⟨r, j, none⟩ = false := fun j => block_free N3.out
  have d0 : w3.cell? ⟨r, 0, none⟩ = some (.bool false) := block_cell N3.out rfl
  have d1 : w3.cell? ⟨r, 1, none⟩ = some (.int .u64 0) := block_cell N3.out rfl
  have d2 : w3.cell? ⟨r, 2, none⟩ = some (.slice none 0 0) := block_cell N3.out rfl
  have d3 : w3.cell? ⟨r, 3, none⟩ = some (.bool false) := block_cell N3.out rfl
  go_wp2_with fail
  refine step_end rfl (stored4 N3.out _ _ _ _) (HFIN.out _ ?_)
  repeat (first | exact Only.refl _ _ | refine Only.setCell ?_ _ _ (fun _ => rfl))
end
end Go.Proofs.Ytacjkbljokjdkaa.ba

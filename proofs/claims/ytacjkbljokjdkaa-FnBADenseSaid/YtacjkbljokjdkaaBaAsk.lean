/-
  arrays.step: asks of one array.
-/
import Derived.Test.YtacjkbljokjdkaaBaStep
namespace Go.Proofs.Ytacjkbljokjdkaa.ba
open Go.RowKit Go.Proofs.Ytacjkbljokjdkaa.base Go.Proofs.Ytacjkbljokjdkaa.heap Go.Proofs.Ytacjkbljokjdkaa.rows Go.Proofs.Ytacjkbljokjdkaa.bit Go.Proofs.Ytacjkbljokjdkaa.bs
set_option linter.unusedVariables false
section
variable {w : World} {q c : Nat} {a : Option Addr} {l : List It}
set_option maxRecDepth 100000 in
set_option maxHeartbeats 1600000 in
theorem stepCap (h : Sta w q a c l) (i p : Nat) (d : BA) (F : Nat → Prop) (hx : l[i]? = some ⟨.iface 85 (.pointer (some ⟨p, 0, none⟩)), d, F⟩) (m : Nat)
    (HC : Hid (∀ wx, Same w wx → Calls Try.prog 52 #[.pointer (some ⟨p, 0, none⟩)] wx (FV wx (.int .u64 (m : Int))))) :
    Calls Try.prog 24 #[.pointer (some ⟨q, 0, none⟩), stv { op := 9, on := i }] w (FV w (.agg #[.bool false, .int .u64 (m : Int), .slice none 0 0, .bool false])) := by
  have HAT : Hid (∀ wx, Same w wx → Calls Try.prog 29 #[.pointer (some ⟨q, 0, none⟩), .int .i64 (i : Int)] wx (FV wx (.iface 85 (.pointer (some ⟨p, 0, none⟩))))) := Lib.hid (fun wx hS => atA (h.still hS) i _ hx)
  have hmth : ∀ wx, (method 255 85 (.pointer (some ⟨p, 0, none⟩)) "Capacity").run Try.prog wx = .ok (52, .pointer (some ⟨p, 0, none⟩)) wx := by intro wx; kernel_rfl
  clear h hx
  unfold stv
  simp only
  go_enter_defers Try.func24, Try.ntmps24
  go_wp2_with (go_at_call 29; refine (HAT.out _ ((Only.refl _ _).alloc _ |>.alloc _)).mono ?_)
  rintro e w1 ⟨rfl, hS1⟩
  obtain ⟨m1, m2, m3⟩ := step_made (w := w) (.cells #[.int .i64 (9 : Int), .int .i64 (i : Int), .int .i64 0, .int .u64 0, .int .i64 0, .bool false] 27) (.cells #[.bool false, .int .u64 0, .slice none 0 0, .bool false] 46)
  have n1 := hS1.obj m2 id
  have n2 := hS1.obj m3 id
  have HS1 : Hid (Same w w1) := Lib.hid (Same.trans m1 hS1)
  obtain ⟨s, hs⟩ : ∃ s, w.heap.size = s := ⟨_, rfl⟩
  obtain ⟨r, hr⟩ : ∃ r, w.heap.size + 1 = r := ⟨_, rfl⟩
  have HR : Hid (w.heap.size ≤ r ∧ s ≠ r ∧ w.heap.size ≤ s) := Lib.hid (by omega)
  rw [hs] at n1
  rw [hr] at n2
  rw [hr, hs]
  have c0 : w1.cell? ⟨s, 0, none⟩ = some (.int .i64 9) := block_cell n1 rfl
  have c3 : w1.cell? ⟨s, 3, none⟩ = some (.int .u64 0) := block_cell n1 rfl
  have N1 := Lib.hid n1
  have N2 := Lib.hid n2
  clear m1 m2 m3 hS1 n1 n2 HAT
  go_wp2_with (go_at_call 52; refine (HC.out _ HS1.out).mono ?_)
  rintro e w2 ⟨rfl, hS2⟩
  have N3 : Hid (w2.heap[r]? = _) := Lib.hid (hS2.obj N2.out id)
  have HS2 : Hid (Same w w2) := Lib.hid (Same.trans HS1.out hS2)
  have f1 : ∀ j, w2.frozen? ⟨r, j, none⟩ = false := fun j => block_free N3.out
  have d0 : w2.cell? ⟨r, 0, none⟩ = some (.bool false) := block_cell N3.out rfl
  have d1 : w2.cell? ⟨r, 1, none⟩ = some (.int .u64 0) := block_cell N3.out rfl
  have d2 : w2.cell? ⟨r, 2, none⟩ = some (.slice none 0 0) := block_cell N3.out rfl
  have d3 : w2.cell? ⟨r, 3, none⟩ = some (.bool false) := block_cell N3.out rfl
  clear N2 hS2 HS1
  go_wp2_with fail
  exact step_end rfl (stored4 (setCell_heap N3.out 1 _) _ _ _ _) ⟨rfl, same4 (HS2.out.setCell _ _ (fun h => absurd HR.out.1 (by simp at h; omega))) HR.out.1 _ _ _ _⟩
set_option maxRecDepth 100000 in
set_option maxHeartbeats 1600000 in
theorem stepCapS (h : Sta w q a c l) (i p : Nat) (d : BA) (F : Nat → Prop) (hx : l[i]? = some ⟨.iface 87 (.pointer (some ⟨p, 0, none⟩)), d, F⟩) (m : Nat)
    (HC : Hid (∀ wx, Same w wx → Calls Try.prog 93 #[.pointer (some ⟨p, 0, none⟩)] wx (FV wx (.int .u64 (m : Int))))) :
    Calls Try.prog 24 #[.pointer (some ⟨q, 0, none⟩), stv { op := 9, on := i }] w (FV w (.agg #[.bool false, .int .u64 (m : Int), .slice none 0 0, .bool false])) := by
  have HAT : Hid (∀ wx, Same w wx → Calls Try.prog 29 #[.pointer (some ⟨q, 0, none⟩), .int .i64 (i : Int)] wx (FV wx (.iface 87 (.pointer (some ⟨p, 0, none⟩))))) := Lib.hid (fun wx hS => atA (h.still hS) i _ hx)
  have hmth : ∀ wx, (method 255 87 (.pointer (some ⟨p, 0, none⟩)) "Capacity").run Try.prog wx = .ok (93, .pointer (some ⟨p, 0, none⟩)) wx := by intro wx; kernel_rfl
  clear h hx
  unfold stv
  simp only
  go_enter_defers Try.func24, Try.ntmps24
  go_wp2_with (go_at_call 29; refine (HAT.out _ ((Only.refl _ _).alloc _ |>.alloc _)).mono ?_)
  rintro e w1 ⟨rfl, hS1⟩
  obtain ⟨m1, m2, m3⟩ := step_made (w := w) (.cells #[.int .i64 (9 : Int), .int .i64 (i : Int), .int .i64 0, .int .u64 0, .int .i64 0, .bool false] 27) (.cells #[.bool false, .int .u64 0, .slice none 0 0, .bool false] 46)
  have n1 := hS1.obj m2 id
  have n2 := hS1.obj m3 id
  have HS1 : Hid (Same w w1) := Lib.hid (Same.trans m1 hS1)
  obtain ⟨s, hs⟩ : ∃ s, w.heap.size = s := ⟨_, rfl⟩
  obtain ⟨r, hr⟩ : ∃ r, w.heap.size + 1 = r := ⟨_, rfl⟩
  have HR : Hid (w.heap.size ≤ r ∧ s ≠ r ∧ w.heap.size ≤ s) := Lib.hid (by omega)
  rw [hs] at n1
  rw [hr] at n2
  rw [hr, hs]
  have c0 : w1.cell? ⟨s, 0, none⟩ = some (.int .i64 9) := block_cell n1 rfl
  have c3 : w1.cell? ⟨s, 3, none⟩ = some (.int .u64 0) := block_cell n1 rfl
  have N1 := Lib.hid n1
  have N2 := Lib.hid n2
  clear m1 m2 m3 hS1 n1 n2 HAT
  go_wp2_with (go_at_call 93; refine (HC.out _ HS1.out).mono ?_)
  rintro e w2 ⟨rfl, hS2⟩
  have N3 : Hid (w2.heap[r]? = _) := Lib.hid (hS2.obj N2.out id)
  have HS2 : Hid (Same w w2) := Lib.hid (Same.trans HS1.out hS2)
  have f1 : ∀ j, w2.frozen? ⟨r, j, none⟩ = false := fun j => block_free N3.out
  have d0 : w2.cell? ⟨r, 0, none⟩ = some (.bool false) := block_cell N3.out rfl
  have d1 : w2.cell? ⟨r, 1, none⟩ = some (.int .u64 0) := block_cell N3.out rfl
  have d2 : w2.cell? ⟨r, 2, none⟩ = some (.slice none 0 0) := block_cell N3.out rfl
  have d3 : w2.cell? ⟨r, 3, none⟩ = some (.bool false) := block_cell N3.out rfl
  clear N2 hS2 HS1
  go_wp2_with fail
  exact step_end rfl (stored4 (setCell_heap N3.out 1 _) _ _ _ _) ⟨rfl, same4 (HS2.out.setCell _ _ (fun h => absurd HR.out.1 (by simp at h; omega))) HR.out.1 _ _ _ _⟩
set_option maxRecDepth 100000 in
set_option maxHeartbeats 1600000 in
theorem stepCount (h : Sta w q a c l) (i p : Nat) (d : BA) (F : Nat → Prop) (hx : l[i]? = some ⟨.iface 85 (.pointer (some ⟨p, 0, none⟩)), d, F⟩) (m : Nat) (hm : m < 1000000000)
    (HC : Hid (∀ wx, Same w wx → Calls Try.prog 54 #[.pointer (some ⟨p, 0, none⟩)] wx (FV wx (.int .i64 (m : Int))))) :
    Calls Try.prog 24 #[.pointer (some ⟨q, 0, none⟩), stv { op := 10, on := i }] w (FV w (.agg #[.bool false, .int .u64 (m : Int), .slice none 0 0, .bool false])) := by
  have HAT : Hid (∀ wx, Same w wx → Calls Try.prog 29 #[.pointer (some ⟨q, 0, none⟩), .int .i64 (i : Int)] wx (FV wx (.iface 85 (.pointer (some ⟨p, 0, none⟩))))) := Lib.hid (fun wx hS => atA (h.still hS) i _ hx)
  have hmth : ∀ wx, (method 255 85 (.pointer (some ⟨p, 0, none⟩)) "Count").run Try.prog wx = .ok (54, .pointer (some ⟨p, 0, none⟩)) wx := by intro wx; kernel_rfl
  clear h hx
  unfold stv
  simp only
  go_enter_defers Try.func24, Try.ntmps24
  go_wp2_with (go_at_call 29; refine (HAT.out _ ((Only.refl _ _).alloc _ |>.alloc _)).mono ?_)
  rintro e w1 ⟨rfl, hS1⟩
  obtain ⟨m1, m2, m3⟩ := step_made (w := w) (.cells #[.int .i64 (10 : Int), .int .i64 (i : Int), .int .i64 0, .int .u64 0, .int .i64 0, .bool false] 27) (.cells #[.bool false, .int .u64 0, .slice none 0 0, .bool false] 46)
  have n1 := hS1.obj m2 id
  have n2 := hS1.obj m3 id
  have HS1 : Hid (Same w w1) := Lib.hid (Same.trans m1 hS1)
  obtain ⟨s, hs⟩ : ∃ s, w.heap.size = s := ⟨_, rfl⟩
  obtain ⟨r, hr⟩ : ∃ r, w.heap.size + 1 = r := ⟨_, rfl⟩
  have HR : Hid (w.heap.size ≤ r ∧ s ≠ r ∧ w.heap.size ≤ s) := Lib.hid (by omega)
  rw [hs] at n1
  rw [hr] at n2
  rw [hr, hs]
  have c0 : w1.cell? ⟨s, 0, none⟩ = some (.int .i64 10) := block_cell n1 rfl
  have c3 : w1.cell? ⟨s, 3, none⟩ = some (.int .u64 0) := block_cell n1 rfl
  have N1 := Lib.hid n1
  have N2 := Lib.hid n2
  clear m1 m2 m3 hS1 n1 n2 HAT
  go_wp2_with (go_at_call 54; refine (HC.out _ HS1.out).mono ?_)
  rintro e w2 ⟨rfl, hS2⟩
  have N3 : Hid (w2.heap[r]? = _) := Lib.hid (hS2.obj N2.out id)
  have HS2 : Hid (Same w w2) := Lib.hid (Same.trans HS1.out hS2)
  have f1 : ∀ j, w2.frozen? ⟨r, j, none⟩ = false := fun j => block_free N3.out
  have d0 : w2.cell? ⟨r, 0, none⟩ = some (.bool false) := block_cell N3.out rfl
  have d1 : w2.cell? ⟨r, 1, none⟩ = some (.int .u64 0) := block_cell N3.out rfl
  have d2 : w2.cell? ⟨r, 2, none⟩ = some (.slice none 0 0) := block_cell N3.out rfl
  have d3 : w2.cell? ⟨r, 3, none⟩ = some (.bool false) := block_cell N3.out rfl
  clear N2 hS2 HS1
  have hwm : IntKind.u64.wrap (m : Int) = (m : Int) := by rw [IntKind.wrap_u64]; omega
  go_wp2_with fail
  exact step_end rfl (stored4 (setCell_heap N3.out 1 _) _ _ _ _) ⟨rfl, same4 (HS2.out.setCell _ _ (fun h => absurd HR.out.1 (by simp at h; omega))) HR.out.1 _ _ _ _⟩
set_option maxRecDepth 100000 in
set_option maxHeartbeats 1600000 in
theorem stepCountS (h : Sta w q a c l) (i p : Nat) (d : BA) (F : Nat → Prop) (hx : l[i]? = some ⟨.iface 87 (.pointer (some ⟨p, 0, none⟩)), d, F⟩) (m : Nat) (hm : m < 1000000000)
    (HC : Hid (∀ wx, Same w wx → Calls Try.prog 97 #[.pointer (some ⟨p, 0, none⟩)] wx (FV wx (.int .i64 (m : Int))))) :
    Calls Try.prog 24 #[.pointer (some ⟨q, 0, none⟩), stv { op := 10, on := i }] w (FV w (.agg #[.bool false, .int .u64 (m : Int), .slice none 0 0, .bool false])) := by
  have HAT : Hid (∀ wx, Same w wx → Calls Try.prog 29 #[.pointer (some ⟨q, 0, none⟩), .int .i64 (i : Int)] wx (FV wx (.iface 87 (.pointer (some ⟨p, 0, none⟩))))) := Lib.hid (fun wx hS => atA (h.still hS) i _ hx)
  have hmth : ∀ wx, (method 255 87 (.pointer (some ⟨p, 0, none⟩)) "Count").run Try.prog wx = .ok (97, .pointer (some ⟨p, 0, none⟩)) wx := by intro wx; kernel_rfl
  clear h hx
  unfold stv
  simp only
  go_enter_defers Try.func24, Try.ntmps24
  go_wp2_with (go_at_call 29; refine (HAT.out _ ((Only.refl _ _).alloc _ |>.alloc _)).mono ?_)
  rintro e w1 ⟨rfl, hS1⟩
  obtain ⟨m1, m2, m3⟩ := step_made (w := w) (.cells #[.int .i64 (10 : Int), .int .i64 (i : Int), .int .i64 0, .int .u64 0, .int .i64 0, .bool false] 27) (.cells #[.bool false, .int .u64 0, .slice none 0 0, .bool false] 46)
  have n1 := hS1.obj m2 id
  have n2 := hS1.obj m3 id
  have HS1 : Hid (Same w w1) := Lib.hid (Same.trans m1 hS1)
  obtain ⟨s, hs⟩ : ∃ s, w.heap.size = s := ⟨_, rfl⟩
  obtain ⟨r, hr⟩ : ∃ r, w.heap.size + 1 = r := ⟨_, rfl⟩
  have HR : Hid (w.heap.size ≤ r ∧ s ≠ r ∧ w.heap.size ≤ s) := Lib.hid (by omega)
  rw [hs] at n1
  rw [hr] at n2
  rw [hr, hs]
  have c0 : w1.cell? ⟨s, 0, none⟩ = some (.int .i64 10) := block_cell n1 rfl
  have c3 : w1.cell? ⟨s, 3, none⟩ = some (.int .u64 0) := block_cell n1 rfl
  have N1 := Lib.hid n1
  have N2 := Lib.hid n2
  clear m1 m2 m3 hS1 n1 n2 HAT
  go_wp2_with (go_at_call 97; refine (HC.out _ HS1.out).mono ?_)
  rintro e w2 ⟨rfl, hS2⟩
  have N3 : Hid (w2.heap[r]? = _) := Lib.hid (hS2.obj N2.out id)
  have HS2 : Hid (Same w w2) := Lib.hid (Same.trans HS1.out hS2)
  have f1 : ∀ j, w2.frozen? ⟨r, j, none⟩ = false := fun j => block_free N3.out
  have d0 : w2.cell? ⟨r, 0, none⟩ = some (.bool false) := block_cell N3.out rfl
  have d1 : w2.cell? ⟨r, 1, none⟩ = some (.int .u64 0) := block_cell N3.out rfl
  have d2 : w2.cell? ⟨r, 2, none⟩ = some (.slice none 0 0) := block_cell N3.out rfl
  have d3 : w2.cell? ⟨r, 3, none⟩ = some (.bool false) := block_cell N3.out rfl
  clear N2 hS2 HS1
  have hwm : IntKind.u64.wrap (m : Int) = (m : Int) := by rw [IntKind.wrap_u64]; omega
  go_wp2_with fail
  exact step_end rfl (stored4 (setCell_heap N3.out 1 _) _ _ _ _) ⟨rfl, same4 (HS2.out.setCell _ _ (fun h => absurd HR.out.1 (by simp at h; omega))) HR.out.1 _ _ _ _⟩
set_option maxRecDepth 100000 in
set_option maxHeartbeats 1600000 in
theorem stepEmpty (h : Sta w q a c l) (i p : Nat) (d : BA) (F : Nat → Prop) (hx : l[i]? = some ⟨.iface 85 (.pointer (some ⟨p, 0, none⟩)), d, F⟩) (m : Bool)
    (HC : Hid (∀ wx, Same w wx → Calls Try.prog 59 #[.pointer (some ⟨p, 0, none⟩)] wx (FV wx (.bool m)))) :
    Calls Try.prog 24 #[.pointer (some ⟨q, 0, none⟩), stv { op := 15, on := i }] w (FV w (.agg #[.bool m, .int .u64 0, .slice none 0 0, .bool false])) := by
  have HAT : Hid (∀ wx, Same w wx → Calls Try.prog 29 #[.pointer (some ⟨q, 0, none⟩), .int .i64 (i : Int)] wx (FV wx (.iface 85 (.pointer (some ⟨p, 0, none⟩))))) := Lib.hid (fun wx hS => atA (h.still hS) i _ hx)
  have hmth : ∀ wx, (method 255 85 (.pointer (some ⟨p, 0, none⟩)) "IsEmpty").run Try.prog wx = .ok (59, .pointer (some ⟨p, 0, none⟩)) wx := by intro wx; kernel_rfl
  clear h hx
  unfold stv
  simp only
  go_enter_defers Try.func24, Try.ntmps24
  go_wp2_with (go_at_call 29; refine (HAT.out _ ((Only.refl _ _).alloc _ |>.alloc _)).mono ?_)
  rintro e w1 ⟨rfl, hS1⟩
  obtain ⟨m1, m2, m3⟩ := step_made (w := w) (.cells #[.int .i64 (15 : Int), .int .i64 (i : Int), .int .i64 0, .int .u64 0, .int .i64 0, .bool false] 27) (.cells #[.bool false, .int .u64 0, .slice none 0 0, .bool false] 46)
  have n1 := hS1.obj m2 id
  have n2 := hS1.obj m3 id
  have HS1 : Hid (Same w w1) := Lib.hid (Same.trans m1 hS1)
  obtain ⟨s, hs⟩ : ∃ s, w.heap.size = s := ⟨_, rfl⟩
  obtain ⟨r, hr⟩ : ∃ r, w.heap.size + 1 = r := ⟨_, rfl⟩
  have HR : Hid (w.heap.size ≤ r ∧ s ≠ r ∧ w.heap.size ≤ s) := Lib.hid (by omega)
  rw [hs] at n1
  rw [hr] at n2
  rw [hr, hs]
  have c0 : w1.cell? ⟨s, 0, none⟩ = some (.int .i64 15) := block_cell n1 rfl
  have c3 : w1.cell? ⟨s, 3, none⟩ = some (.int .u64 0) := block_cell n1 rfl
  have N1 := Lib.hid n1
  have N2 := Lib.hid n2
  clear m1 m2 m3 hS1 n1 n2 HAT
  go_wp2_with (go_at_call 59; refine (HC.out _ HS1.out).mono ?_)
  rintro e w2 ⟨rfl, hS2⟩
  have N3 : Hid (w2.heap[r]? = _) := Lib.hid (hS2.obj N2.out id)
  have HS2 : Hid (Same w w2) := Lib.hid (Same.trans HS1.out hS2)
  have f1 : ∀ j, w2.frozen? ⟨r, j, none⟩ = false := fun j => block_free N3.out
  have d0 : w2.cell? ⟨r, 0, none⟩ = some (.bool false) := block_cell N3.out rfl
  have d1 : w2.cell? ⟨r, 1, none⟩ = some (.int .u64 0) := block_cell N3.out rfl
  have d2 : w2.cell? ⟨r, 2, none⟩ = some (.slice none 0 0) := block_cell N3.out rfl
  have d3 : w2.cell? ⟨r, 3, none⟩ = some (.bool false) := block_cell N3.out rfl
  clear N2 hS2 HS1
  go_wp2_with fail
  exact step_end rfl (stored4 (setCell_heap N3.out 0 _) _ _ _ _) ⟨rfl, same4 (HS2.out.setCell _ _ (fun h => absurd HR.out.1 (by simp at h; omega))) HR.out.1 _ _ _ _⟩
set_option maxRecDepth 100000 in
set_option maxHeartbeats 1600000 in
theorem stepEmptyS (h : Sta w q a c l) (i p : Nat) (d : BA) (F : Nat → Prop) (hx : l[i]? = some ⟨.iface 87 (.pointer (some ⟨p, 0, none⟩)), d, F⟩) (m : Bool)
    (HC : Hid (∀ wx, Same w wx → Calls Try.prog 102 #[.pointer (some ⟨p, 0, none⟩)] wx (FV wx (.bool m)))) :
    Calls Try.prog 24 #[.pointer (some ⟨q, 0, none⟩), stv { op := 15, on := i }] w (FV w (.agg #[.bool m, .int .u64 0, .slice none 0 0, .bool false])) := by
  have HAT : Hid (∀ wx, Same w wx → Calls Try.prog 29 #[.pointer (some ⟨q, 0, none⟩), .int .i64 (i : Int)] wx (FV wx (.iface 87 (.pointer (some ⟨p, 0, none⟩))))) := Lib.hid (fun wx hS => atA (h.still hS) i _ hx)
  have hmth : ∀ wx, (method 255 87 (.pointer (some ⟨p, 0, none⟩)) "IsEmpty").run Try.prog wx = .ok (102, .pointer (some ⟨p, 0, none⟩)) wx := by intro wx; kernel_rfl
  clear h hx
  unfold stv
  simp only
  go_enter_defers Try.func24, Try.ntmps24
  go_wp2_with (go_at_call 29; refine (HAT.out _ ((Only.refl _ _).alloc _ |>.alloc _)).mono ?_)
  rintro e w1 ⟨rfl, hS1⟩
  obtain ⟨m1, m2, m3⟩ := step_made (w := w) (.cells #[.int .i64 (15 : Int), .int .i64 (i : Int), .int .i64 0, .int .u64 0, .int .i64 0, .bool false] 27) (.cells #[.bool false, .int .u64 0, .slice none 0 0, .bool false] 46)
  have n1 := hS1.obj m2 id
  have n2 := hS1.obj m3 id
  have HS1 : Hid (Same w w1) := Lib.hid (Same.trans m1 hS1)
  obtain ⟨s, hs⟩ : ∃ s, w.heap.size = s := ⟨_, rfl⟩
  obtain ⟨r, hr⟩ : ∃ r, w.heap.size + 1 = r := ⟨_, rfl⟩
  have HR : Hid (w.heap.size ≤ r ∧ s ≠ r ∧ w.heap.size ≤ s) := Lib.hid (by omega)
  rw [hs] at n1
  rw [hr] at n2
  rw [hr, hs]
  have c0 : w1.cell? ⟨s, 0, none⟩ = some (.int .i64 15) := block_cell n1 rfl
  have c3 : w1.cell? ⟨s, 3, none⟩ = some (.int .u64 0) := block_cell n1 rfl
  have N1 := Lib.hid n1
  have N2 := Lib.hid n2
  clear m1 m2 m3 hS1 n1 n2 HAT
  go_wp2_with (go_at_call 102; refine (HC.out _ HS1.out).mono ?_)
  rintro e w2 ⟨rfl, hS2⟩
  have N3 : Hid (w2.heap[r]? = _) := Lib.hid (hS2.obj N2.out id)
  have HS2 : Hid (Same w w2) := Lib.hid (Same.trans HS1.out hS2)
  have f1 : ∀ j, w2.frozen? ⟨r, j, none⟩ = false := fun j => block_free N3.out
  have d0 : w2.cell? ⟨r, 0, none⟩ = some (.bool false) := block_cell N3.out rfl
  have d1 : w2.cell? ⟨r, 1, none⟩ = some (.int .u64 0) := block_cell N3.out rfl
  have d2 : w2.cell? ⟨r, 2, none⟩ = some (.slice none 0 0) := block_cell N3.out rfl
  have d3 : w2.cell? ⟨r, 3, none⟩ = some (.bool false) := block_cell N3.out rfl
  clear N2 hS2 HS1
  go_wp2_with fail
  exact step_end rfl (stored4 (setCell_heap N3.out 0 _) _ _ _ _) ⟨rfl, same4 (HS2.out.setCell _ _ (fun h => absurd HR.out.1 (by simp at h; omega))) HR.out.1 _ _ _ _⟩
/-- a list of numbers is answered: it is new -/
def NumsA (L : List Nat) (w : World) (e : Ending) (w' : World) : Prop := ∃ an cn, e = .returned (.agg #[.bool false, .int .u64 0, .slice an L.length cn, .bool false]) ∧ Own 24 1 w' an L.length cn (U L) ∧ Same w w' ∧ ∀ k, At an k → w.heap.size ≤ k
set_option maxRecDepth 100000 in
set_option maxHeartbeats 1600000 in
theorem stepNums (h : Sta w q a c l) (i p : Nat) (d : BA) (F : Nat → Prop) (hx : l[i]? = some ⟨.iface 85 (.pointer (some ⟨p, 0, none⟩)), d, F⟩) (L : List Nat)
    (HC : Hid (∀ wx, Same w wx → Calls Try.prog 64 #[.pointer (some ⟨p, 0, none⟩)] wx (NumsP L wx))) :
    Calls Try.prog 24 #[.pointer (some ⟨q, 0, none⟩), stv { op := 14, on := i }] w (NumsA L w) := by
  have HAT : Hid (∀ wx, Same w wx → Calls Try.prog 29 #[.pointer (some ⟨q, 0, none⟩), .int .i64 (i : Int)] wx (FV wx (.iface 85 (.pointer (some ⟨p, 0, none⟩))))) := Lib.hid (fun wx hS => atA (h.still hS) i _ hx)
  have hmth : ∀ wx, (method 255 85 (.pointer (some ⟨p, 0, none⟩)) "ToNums").run Try.prog wx = .ok (64, .pointer (some ⟨p, 0, none⟩)) wx := by intro wx; kernel_rfl
  clear h hx
  unfold stv
  simp only
  go_enter_defers Try.func24, Try.ntmps24
  go_wp2_with (go_at_call 29; refine (HAT.out _ ((Only.refl _ _).alloc _ |>.alloc _)).mono ?_)
  rintro e w1 ⟨rfl, hS1⟩
  obtain ⟨m1, m2, m3⟩ := step_made (w := w) (.cells #[.int .i64 (14 : Int), .int .i64 (i : Int), .int .i64 0, .int .u64 0, .int .i64 0, .bool false] 27) (.cells #[.bool false, .int .u64 0, .slice none 0 0, .bool false] 46)
  have n1 := hS1.obj m2 id
  have n2 := hS1.obj m3 id
  have HS1 : Hid (Same w w1) := Lib.hid (Same.trans m1 hS1)
  obtain ⟨s, hs⟩ : ∃ s, w.heap.size = s := ⟨_, rfl⟩
  obtain ⟨r, hr⟩ : ∃ r, w.heap.size + 1 = r := ⟨_, rfl⟩
  have HR : Hid (w.heap.size ≤ r ∧ s ≠ r ∧ w.heap.size ≤ s) := Lib.hid (by omega)
  rw [hs] at n1
  rw [hr] at n2
  rw [hr, hs]
  have c0 : w1.cell? ⟨s, 0, none⟩ = some (.int .i64 14) := block_cell n1 rfl
  have c3 : w1.cell? ⟨s, 3, none⟩ = some (.int .u64 0) := block_cell n1 rfl
  have N1 := Lib.hid n1
  have N2 := Lib.hid n2
  clear m1 m2 m3 hS1 n1 n2 HAT
  go_wp2_with (go_at_call 64; refine (HC.out _ HS1.out).mono ?_)
  rintro e w2 ⟨an, cn, rfl, hown, hS2, hfr⟩
  have HOWN : Hid (Own 24 1 w2 an L.length cn (U L) ∧ ¬ At an r ∧ ∀ k, At an k → w.heap.size ≤ k) := Lib.hid ⟨hown, fun e => absurd (lt_of_heap N2.out) (by have := hfr r e; omega), fun k hk => Nat.le_trans HS1.out.size (hfr k hk)⟩
  clear hown hfr
  have N3 : Hid (w2.heap[r]? = _) := Lib.hid (hS2.obj N2.out id)
  have HS2 : Hid (Same w w2) := Lib.hid (Same.trans HS1.out hS2)
  have f1 : ∀ j, w2.frozen? ⟨r, j, none⟩ = false := fun j => block_free N3.out
  have d0 : w2.cell? ⟨r, 0, none⟩ = some (.bool false) := block_cell N3.out rfl
  have d1 : w2.cell? ⟨r, 1, none⟩ = some (.int .u64 0) := block_cell N3.out rfl
  have d2 : w2.cell? ⟨r, 2, none⟩ = some (.slice none 0 0) := block_cell N3.out rfl
  have d3 : w2.cell? ⟨r, 3, none⟩ = some (.bool false) := block_cell N3.out rfl
  clear N2 hS2 HS1
  go_wp2_with fail
  refine step_end rfl (stored4 (setCell_heap N3.out 2 _) _ _ _ _) ⟨an, cn, rfl, ?_, same4 (HS2.out.setCell _ _ (fun h => absurd HR.out.1 (by simp at h; omega))) HR.out.1 _ _ _ _, HOWN.out.2.2⟩
  refine HOWN.out.1.keep (S := fun k => k = r) ?_ (fun k hk e => HOWN.out.2.1 (by rw [← e]; exact hk))
  repeat (first | exact Only.refl _ _ | refine Only.setCell ?_ _ _ (fun _ => rfl))
set_option maxRecDepth 100000 in
set_option maxHeartbeats 1600000 in
theorem stepNumsS (h : Sta w q a c l) (i p : Nat) (d : BA) (F : Nat → Prop) (hx : l[i]? = some ⟨.iface 87 (.pointer (some ⟨p, 0, none⟩)), d, F⟩) (L : List Nat)
    (HC : Hid (∀ wx, Same w wx → Calls Try.prog 107 #[.pointer (some ⟨p, 0, none⟩)] wx (NumsP L wx))) :
    Calls Try.prog 24 #[.pointer (some ⟨q, 0, none⟩), stv { op := 14, on := i }] w (NumsA L w) := by
  have HAT : Hid (∀ wx, Same w wx → Calls Try.prog 29 #[.pointer (some ⟨q, 0, none⟩), .int .i64 (i : Int)] wx (FV wx (.iface 87 (.pointer (some ⟨p, 0, none⟩))))) := Lib.hid (fun wx hS => atA (h.still hS) i _ hx)
  have hmth : ∀ wx, (method 255 87 (.pointer (some ⟨p, 0, none⟩)) "ToNums").run Try.prog wx = .ok (107, .pointer (some ⟨p, 0, none⟩)) wx := by intro wx; kernel_rfl
  clear h hx
  unfold stv
  simp only
  go_enter_defers Try.func24, Try.ntmps24
  go_wp2_with (go_at_call 29; refine (HAT.out _ ((Only.refl _ _).alloc _ |>.alloc _)).mono ?_)
  rintro e w1 ⟨rfl, hS1⟩
  obtain ⟨m1, m2, m3⟩ := step_made (w := w) (.cells #[.int .i64 (14 : Int), .int .i64 (i : Int), .int .i64 0, .int .u64 0, .int .i64 0, .bool false] 27) (.cells #[.bool false, .int .u64 0, .slice none 0 0, .bool false] 46)
  have n1 := hS1.obj m2 id
  have n2 := hS1.obj m3 id
  have HS1 : Hid (Same w w1) := Lib.hid (Same.trans m1 hS1)
  obtain ⟨s, hs⟩ : ∃ s, w.heap.size = s := ⟨_, rfl⟩
  obtain ⟨r, hr⟩ : ∃ r, w.heap.size + 1 = r := ⟨_, rfl⟩
  have HR : Hid (w.heap.size ≤ r ∧ s ≠ r ∧ w.heap.size ≤ s) := Lib.hid (by omega)
  rw [hs] at n1
  rw [hr] at n2
  rw [hr, hs]
  have c0 : w1.cell? ⟨s, 0, none⟩ = some (.int .i64 14) := block_cell n1 rfl
  have c3 : w1.cell? ⟨s, 3, none⟩ = some (.int .u64 0) := block_cell n1 rfl
  have N1 := Lib.hid n1
  have N2 := Lib.hid n2
  clear m1 m2 m3 hS1 n1 n2 HAT
  go_wp2_with (go_at_call 107; refine (HC.out _ HS1.out).mono ?_)
  rintro e w2 ⟨an, cn, rfl, hown, hS2, hfr⟩
  have HOWN : Hid (Own 24 1 w2 an L.length cn (U L) ∧ ¬ At an r ∧ ∀ k, At an k → w.heap.size ≤ k) := Lib.hid ⟨hown, fun e => absurd (lt_of_heap N2.out) (by have := hfr r e; omega), fun k hk => Nat.le_trans HS1.out.size (hfr k hk)⟩
  clear hown hfr
  have N3 : Hid (w2.heap[r]? = _) := Lib.hid (hS2.obj N2.out id)
  have HS2 : Hid (Same w w2) := Lib.hid (Same.trans HS1.out hS2)
  have f1 : ∀ j, w2.frozen? ⟨r, j, none⟩ = false := fun j => block_free N3.out
  have d0 : w2.cell? ⟨r, 0, none⟩ = some (.bool false) := block_cell N3.out rfl
  have d1 : w2.cell? ⟨r, 1, none⟩ = some (.int .u64 0) := block_cell N3.out rfl
  have d2 : w2.cell? ⟨r, 2, none⟩ = some (.slice none 0 0) := block_cell N3.out rfl
  have d3 : w2.cell? ⟨r, 3, none⟩ = some (.bool false) := block_cell N3.out rfl
  clear N2 hS2 HS1
  go_wp2_with fail
  refine step_end rfl (stored4 (setCell_heap N3.out 2 _) _ _ _ _) ⟨an, cn, rfl, ?_, same4 (HS2.out.setCell _ _ (fun h => absurd HR.out.1 (by simp at h; omega))) HR.out.1 _ _ _ _, HOWN.out.2.2⟩
  refine HOWN.out.1.keep (S := fun k => k = r) ?_ (fun k hk e => HOWN.out.2.1 (by rw [← e]; exact hk))
  repeat (first | exact Only.refl _ _ | refine Only.setCell ?_ _ _ (fun _ => rfl))
/-- an array has turned: it is d' now -/
def Turn (v : Value) (F : Nat → Prop) (x : Value) (d' : BA) (w : World) (e : Ending) (w' : World) : Prop := e = .returned v ∧ Only F w w' ∧ ∃ F', Arr w' x d' F' ∧ ∀ k, F' k → F k ∨ w.heap.size ≤ k
set_option maxRecDepth 100000 in
set_option maxHeartbeats 1600000 in
theorem stepSet (h : Sta w q a c l) (i p : Nat) (d : BA) (F : Nat → Prop) (hx : l[i]? = some ⟨.iface 85 (.pointer (some ⟨p, 0, none⟩)), d, F⟩) (k : Nat) (d' : BA)
    (HC : Hid (∀ wx, Same w wx → Calls Try.prog 63 #[.pointer (some ⟨p, 0, none⟩), .int .u64 (k : Int)] wx (Turn (.nilIface) F (.iface 85 (.pointer (some ⟨p, 0, none⟩))) d' wx))) :
    Calls Try.prog 24 #[.pointer (some ⟨q, 0, none⟩), stv { op := 3, on := i, k := k }] w (Turn (.agg #[.bool true, .int .u64 0, .slice none 0 0, .bool false]) F (.iface 85 (.pointer (some ⟨p, 0, none⟩))) d' w) := by
  have HF := Lib.hid (h.get hx).lt
  have HAT : Hid (∀ wx, Same w wx → Calls Try.prog 29 #[.pointer (some ⟨q, 0, none⟩), .int .i64 (i : Int)] wx (FV wx (.iface 85 (.pointer (some ⟨p, 0, none⟩))))) := Lib.hid (fun wx hS => atA (h.still hS) i _ hx)
  have hmth : ∀ wx, (method 255 85 (.pointer (some ⟨p, 0, none⟩)) "SetBit").run Try.prog wx = .ok (63, .pointer (some ⟨p, 0, none⟩)) wx := by intro wx; kernel_rfl
  clear h hx
  unfold stv
  simp only
  go_enter_defers Try.func24, Try.ntmps24
  go_wp2_with (go_at_call 29; refine (HAT.out _ ((Only.refl _ _).alloc _ |>.alloc _)).mono ?_)
  rintro e w1 ⟨rfl, hS1⟩
  obtain ⟨m1, m2, m3⟩ := step_made (w := w) (.cells #[.int .i64 (3 : Int), .int .i64 (i : Int), .int .i64 0, .int .u64 (k : Int), .int .i64 0, .bool false] 27) (.cells #[.bool false, .int .u64 0, .slice none 0 0, .bool false] 46)
  have n1 := hS1.obj m2 id
  have n2 := hS1.obj m3 id
  have HS1 : Hid (Same w w1) := Lib.hid (Same.trans m1 hS1)
  obtain ⟨s, hs⟩ : ∃ s, w.heap.size = s := ⟨_, rfl⟩
  obtain ⟨r, hr⟩ : ∃ r, w.heap.size + 1 = r := ⟨_, rfl⟩
  have HR : Hid (w.heap.size ≤ r ∧ s ≠ r ∧ w.heap.size ≤ s) := Lib.hid (by omega)
  rw [hs] at n1
  rw [hr] at n2
  rw [hr, hs]
  have c0 : w1.cell? ⟨s, 0, none⟩ = some (.int .i64 3) := block_cell n1 rfl
  have c3 : w1.cell? ⟨s, 3, none⟩ = some (.int .u64 (k : Int)) := block_cell n1 rfl
  have N1 := Lib.hid n1
  have N2 := Lib.hid n2
  clear m1 m2 m3 hS1 n1 n2 HAT
  go_wp2_with (go_at_call 63; refine (HC.out _ HS1.out).mono ?_)
  rintro e w2 ⟨rfl, hO2, F', hA, hF'⟩
  have hrF : ¬ F r ∧ ¬ F' r := ⟨fun h => by have := HF.out r h; have := HR.out.1; omega, fun h => by
    rcases hF' r h with h1 | h1
    · have := HF.out r h1; have := HR.out.1; omega
    · have := lt_of_heap N2.out; omega⟩
  have N3 : Hid (w2.heap[r]? = _) := Lib.hid (hO2.obj N2.out hrF.1)
  have HO2 : Hid (Only F w w2 ∧ Arr w2 (.iface 85 (.pointer (some ⟨p, 0, none⟩))) d' F' ∧ (∀ k, F' k → F k ∨ w.heap.size ≤ k) ∧ ¬ F' r) := Lib.hid ⟨(HS1.out.mono (fun _ _ f => f.elim)).trans hO2 (fun _ _ h => h), hA, fun k hk => (hF' k hk).imp id (fun h => Nat.le_trans HS1.out.size h), hrF.2⟩
  have f1 : ∀ j, w2.frozen? ⟨r, j, none⟩ = false := fun j => block_free N3.out
  have d0 : w2.cell? ⟨r, 0, none⟩ = some (.bool false) := block_cell N3.out rfl
  have d1 : w2.cell? ⟨r, 1, none⟩ = some (.int .u64 0) := block_cell N3.out rfl
  have d2 : w2.cell? ⟨r, 2, none⟩ = some (.slice none 0 0) := block_cell N3.out rfl
  have d3 : w2.cell? ⟨r, 3, none⟩ = some (.bool false) := block_cell N3.out rfl
  clear N2 hO2 HS1 hA hF' hrF
  go_wp2_with fail
  have hOr : ∀ v, Only (fun k => k = r) w2 (((((w2.setCell ⟨r, 0, none⟩ v).setCell ⟨r, 0, none⟩ v).setCell ⟨r, 1, none⟩ (.int .u64 0)).setCell ⟨r, 2, none⟩ (.slice none 0 0)).setCell ⟨r, 3, none⟩ (.bool false)) := fun v => by
    repeat (first | exact Only.refl _ _ | refine Only.setCell ?_ _ _ (fun _ => rfl))
  exact step_end rfl (stored4 (setCell_heap N3.out 0 _) _ _ _ _) ⟨rfl, HO2.out.1.trans (hOr _) (fun k hk e => absurd HR.out.1 (by omega)), F', HO2.out.2.1.keep (hOr _) (fun k hk e => HO2.out.2.2.2 (by rw [← e]; exact hk)), HO2.out.2.2.1⟩
set_option maxRecDepth 100000 in
set_option maxHeartbeats 1600000 in
theorem stepSetS (h : Sta w q a c l) (i p : Nat) (d : BA) (F : Nat → Prop) (hx : l[i]? = some ⟨.iface 87 (.pointer (some ⟨p, 0, none⟩)), d, F⟩) (k : Nat) (d' : BA)
    (HC : Hid (∀ wx, Same w wx → Calls Try.prog 106 #[.pointer (some ⟨p, 0, none⟩), .int .u64 (k : Int)] wx (Turn (.nilIface) F (.iface 87 (.pointer (some ⟨p, 0, none⟩))) d' wx))) :
    Calls Try.prog 24 #[.pointer (some ⟨q, 0, none⟩), stv { op := 3, on := i, k := k }] w (Turn (.agg #[.bool true, .int .u64 0, .slice none 0 0, .bool false]) F (.iface 87 (.pointer (some ⟨p, 0, none⟩))) d' w) := by
  have HF := Lib.hid (h.get hx).lt
  have HAT : Hid (∀ wx, Same w wx → Calls Try.prog 29 #[.pointer (some ⟨q, 0, none⟩), .int .i64 (i : Int)] wx (FV wx (.iface 87 (.pointer (some ⟨p, 0, none⟩))))) := Lib.hid (fun wx hS => atA (h.still hS) i _ hx)
  have hmth : ∀ wx, (method 255 87 (.pointer (some ⟨p, 0, none⟩)) "SetBit").run Try.prog wx = .ok (106, .pointer (some ⟨p, 0, none⟩)) wx := by intro wx; kernel_rfl
  clear h hx
  unfold stv
  simp only
  go_enter_defers Try.func24, Try.ntmps24
  go_wp2_with (go_at_call 29; refine (HAT.out _ ((Only.refl _ _).alloc _ |>.alloc _)).mono ?_)
  rintro e w1 ⟨rfl, hS1⟩
  obtain ⟨m1, m2, m3⟩ := step_made (w := w) (.cells #[.int .i64 (3 : Int), .int .i64 (i : Int), .int .i64 0, .int .u64 (k : Int), .int .i64 0, .bool false] 27) (.cells #[.bool false, .int .u64 0, .slice none 0 0, .bool false] 46)
  have n1 := hS1.obj m2 id
  have n2 := hS1.obj m3 id
  have HS1 : Hid (Same w w1) := Lib.hid (Same.trans m1 hS1)
  obtain ⟨s, hs⟩ : ∃ s, w.heap.size = s := ⟨_, rfl⟩
  obtain ⟨r, hr⟩ : ∃ r, w.heap.size + 1 = r := ⟨_, rfl⟩
  have HR : Hid (w.heap.size ≤ r ∧ s ≠ r ∧ w.heap.size ≤ s) := Lib.hid (by omega)
  rw [hs] at n1
  rw [hr] at n2
  rw [hr, hs]
  have c0 : w1.cell? ⟨s, 0, none⟩ = some (.int .i64 3) := block_cell n1 rfl
  have c3 : w1.cell? ⟨s, 3, none⟩ = some (.int .u64 (k : Int)) := block_cell n1 rfl
  have N1 := Lib.hid n1
  have N2 := Lib.hid n2
  clear m1 m2 m3 hS1 n1 n2 HAT
  go_wp2_with (go_at_call 106; refine (HC.out _ HS1.out).mono ?_)
  rintro e w2 ⟨rfl, hO2, F', hA, hF'⟩
  have hrF : ¬ F r ∧ ¬ F' r := ⟨fun h => by have := HF.out r h; have := HR.out.1; omega, fun h => by
    rcases hF' r h with h1 | h1
    · have := HF.out r h1; have := HR.out.1; omega
    · have := lt_of_heap N2.out; omega⟩
  have N3 : Hid (w2.heap[r]? = _) := Lib.hid (hO2.obj N2.out hrF.1)
  have HO2 : Hid (Only F w w2 ∧ Arr w2 (.iface 87 (.pointer (some ⟨p, 0, none⟩))) d' F' ∧ (∀ k, F' k → F k ∨ w.heap.size ≤ k) ∧ ¬ F' r) := Lib.hid ⟨(HS1.out.mono (fun _ _ f => f.elim)).trans hO2 (fun _ _ h => h), hA, fun k hk => (hF' k hk).imp id (fun h => Nat.le_trans HS1.out.size h), hrF.2⟩
  have f1 : ∀ j, w2.frozen? ⟨r, j, none⟩ = false := fun j => block_free N3.out
  have d0 : w2.cell? ⟨r, 0, none⟩ = some (.bool false) := block_cell N3.out rfl
  have d1 : w2.cell? ⟨r, 1, none⟩ = some (.int .u64 0) := block_cell N3.out rfl
  have d2 : w2.cell? ⟨r, 2, none⟩ = some (.slice none 0 0) := block_cell N3.out rfl
  have d3 : w2.cell? ⟨r, 3, none⟩ = some (.bool false) := block_cell N3.out rfl
  clear N2 hO2 HS1 hA hF' hrF
  go_wp2_with fail
  have hOr : ∀ v, Only (fun k => k = r) w2 (((((w2.setCell ⟨r, 0, none⟩ v).setCell ⟨r, 0, none⟩ v).setCell ⟨r, 1, none⟩ (.int .u64 0)).setCell ⟨r, 2, none⟩ (.slice none 0 0)).setCell ⟨r, 3, none⟩ (.bool false)) := fun v => by
    repeat (first | exact Only.refl _ _ | refine Only.setCell ?_ _ _ (fun _ => rfl))
  exact step_end rfl (stored4 (setCell_heap N3.out 0 _) _ _ _ _) ⟨rfl, HO2.out.1.trans (hOr _) (fun k hk e => absurd HR.out.1 (by omega)), F', HO2.out.2.1.keep (hOr _) (fun k hk e => HO2.out.2.2.2 (by rw [← e]; exact hk)), HO2.out.2.2.1⟩
end
end Go.Proofs.Ytacjkbljokjdkaa.ba

/-
  arrays.step: what one array is asked of another one.
-/
import Derived.Test.YtacjkbljokjdkaaBaDoesD
namespace Go.Proofs.Ytacjkbljokjdkaa.ba
open Go.RowKit Go.Proofs.Ytacjkbljokjdkaa.base Go.Proofs.Ytacjkbljokjdkaa.heap Go.Proofs.Ytacjkbljokjdkaa.rows Go.Proofs.Ytacjkbljokjdkaa.bit Go.Proofs.Ytacjkbljokjdkaa.bs
set_option linter.unusedVariables false
/-- an answer's first field is told -/
def AskP (w : World) (r : Nat) (b : Bool) (e : Ending) (w' : World) : Prop := e = .returned (.tuple #[]) ∧ ∃ wm, Same w wm ∧ w' = wm.setCell ⟨r, 0, none⟩ (.bool b)
section
variable {w : World} {q c : Nat} {a : Option Addr} {l : List It}
set_option maxRecDepth 100000 in
set_option maxHeartbeats 1600000 in
theorem twoMeets (h : Sta w q a c l) (i j p : Nat) (r : Nat) (b : Bool) (y : It) (hy : l[j]? = some y) (hr : w.heap[r]? = some (.cells #[.bool false, .int .u64 0, .slice none 0 0, .bool false] 46 (0, 0)))
    (HC : Hid (∀ wx, Same w wx → Calls Try.prog 58 #[.pointer (some ⟨p, 0, none⟩), y.v] wx (FV wx (.bool b)))) :
    Calls Try.prog 30 #[.pointer (some ⟨q, 0, none⟩), stv { op := 8, on := i, by_ := j }, .iface 85 (.pointer (some ⟨p, 0, none⟩)), .pointer (some ⟨r, 0, none⟩)] w (AskP w r b) := by
  obtain ⟨t, u, hv⟩ : ∃ t u, y.v = .iface t u := (h.get hy).val
  rw [hv] at HC
  have HAT : Hid (∀ wx, Same w wx → Calls Try.prog 29 #[.pointer (some ⟨q, 0, none⟩), .int .i64 (j : Int)] wx (FV wx (.iface t u))) := Lib.hid (fun wx hS => by
    have := atA (h.still hS) j _ hy
    rw [hv] at this
    exact this)
  have hmth : ∀ wx, (method 255 85 (.pointer (some ⟨p, 0, none⟩)) "Intersects").run Try.prog wx = .ok (58, .pointer (some ⟨p, 0, none⟩)) wx := by intro wx; kernel_rfl
  have HRB := Lib.hid hr
  clear h hy hv hr
  unfold stv
  simp only
  go_enter Try.func30, Try.ntmps30
  go_wp2_with (go_at_call 29; refine (HAT.out _ ((Only.refl _ _).alloc _)).mono ?_)
  rintro e w1 ⟨rfl, hS1⟩
  have n1 := hS1.obj (heap_alloc_new w (.cells #[.int .i64 8, .int .i64 (i : Int), .int .i64 (j : Int), .int .u64 0, .int .i64 0, .bool false] 27)) id
  have HS1 : Hid (Same w w1) := Lib.hid (Same.trans ((Only.refl _ _).alloc _) hS1)
  obtain ⟨s, hs⟩ : ∃ s, w.heap.size = s := ⟨_, rfl⟩
  rw [hs] at n1
  rw [hs]
  have c0 : w1.cell? ⟨s, 0, none⟩ = some (.int .i64 8) := block_cell n1 rfl
  clear hS1 n1 HAT
  go_wp2_with (go_at_call 58; refine (HC.out _ HS1.out).mono ?_)
  rintro e w2 ⟨rfl, hS2⟩
  have HS2 : Hid (Same w w2) := Lib.hid (Same.trans HS1.out hS2)
  have hr2 := HS2.out.obj HRB.out id
  have f0 : w2.frozen? ⟨r, 0, none⟩ = false := block_free hr2
  have d0 : w2.cell? ⟨r, 0, none⟩ = some (.bool false) := block_cell hr2 rfl
  clear hS2 hr2 c0
  go_wp2_with fail
  go_end0
  exact ⟨rfl, w2, HS2.out, rfl⟩
set_option maxRecDepth 100000 in
set_option maxHeartbeats 1600000 in
theorem stepMeets (h : Sta w q a c l) (i j p : Nat) (d : BA) (F : Nat → Prop) (hx : l[i]? = some ⟨.iface 85 (.pointer (some ⟨p, 0, none⟩)), d, F⟩) (y : It) (hy : l[j]? = some y) (b : Bool)
    (HC : Hid (∀ wx, Same w wx → Calls Try.prog 58 #[.pointer (some ⟨p, 0, none⟩), y.v] wx (FV wx (.bool b)))) :
    Calls Try.prog 24 #[.pointer (some ⟨q, 0, none⟩), stv { op := 8, on := i, by_ := j }] w (FV w (.agg #[.bool b, .int .u64 0, .slice none 0 0, .bool false])) := by
  have HTW : Hid (∀ wx r, Same w wx → wx.heap[r]? = some (.cells #[.bool false, .int .u64 0, .slice none 0 0, .bool false] 46 (0, 0)) → Calls Try.prog 30 #[.pointer (some ⟨q, 0, none⟩), stv { op := 8, on := i, by_ := j }, .iface 85 (.pointer (some ⟨p, 0, none⟩)), .pointer (some ⟨r, 0, none⟩)] wx (AskP wx r b)) := Lib.hid (fun wx r hS hr =>
    twoMeets (h.still hS) i j p r b y hy hr (Lib.hid (fun wy hy => HC.out wy (Same.trans hS hy))))
  clear HC
  have HAT : Hid (∀ wx, Same w wx → Calls Try.prog 29 #[.pointer (some ⟨q, 0, none⟩), .int .i64 (i : Int)] wx (FV wx (.iface 85 (.pointer (some ⟨p, 0, none⟩))))) := Lib.hid (fun wx hS => atA (h.still hS) i _ hx)
  clear h hx
  unfold stv at HTW ⊢
  simp only at HTW ⊢
  go_enter_defers Try.func24, Try.ntmps24
  go_wp2_with (go_at_call 29; refine (HAT.out _ ((Only.refl _ _).alloc _ |>.alloc _)).mono ?_)
  rintro e w1 ⟨rfl, hS1⟩
  obtain ⟨m1, m2, m3⟩ := step_made (w := w) (.cells #[.int .i64 (8 : Int), .int .i64 (i : Int), .int .i64 (j : Int), .int .u64 0, .int .i64 0, .bool false] 27) (.cells #[.bool false, .int .u64 0, .slice none 0 0, .bool false] 46)
  have n1 := hS1.obj m2 id
  have n2 := hS1.obj m3 id
  have HS1 : Hid (Same w w1) := Lib.hid (Same.trans m1 hS1)
  obtain ⟨s, hs⟩ : ∃ s, w.heap.size = s := ⟨_, rfl⟩
  obtain ⟨r, hr⟩ : ∃ r, w.heap.size + 1 = r := ⟨_, rfl⟩
  have HR : Hid (w.heap.size ≤ r ∧ s ≠ r ∧ w.heap.size ≤ s) := Lib.hid (by omega)
  rw [hs] at n1
  rw [hr] at n2
  rw [hr, hs]
  have c0 : w1.cell? ⟨s, 0, none⟩ = some (.int .i64 8) := block_cell n1 rfl
  have c3 : w1.cell? ⟨s, 3, none⟩ = some (.int .u64 0) := block_cell n1 rfl
  have N1 := Lib.hid n1
  have N2 := Lib.hid n2
  clear m1 m2 m3 hS1 n1 n2 HAT
  have c1 : w1.cell? ⟨s, 1, none⟩ = some (.int .i64 (i : Int)) := block_cell N1.out rfl
  have c2 : w1.cell? ⟨s, 2, none⟩ = some (.int .i64 (j : Int)) := block_cell N1.out rfl
  have c4 : w1.cell? ⟨s, 4, none⟩ = some (.int .i64 0) := block_cell N1.out rfl
  have c5 : w1.cell? ⟨s, 5, none⟩ = some (.bool false) := block_cell N1.out rfl
  go_wp2_with (go_at_call 30; refine (HTW.out _ _ HS1.out N2.out).mono ?_)
  rintro e w2 ⟨rfl, wm, hSm, hw2⟩
  have N3 : Hid (w2.heap[r]? = some (.cells #[.bool b, .int .u64 0, .slice none 0 0, .bool false] 46 (0, 0))) := Lib.hid (by rw [hw2]; exact setCell_heap (hSm.obj N2.out id) 0 _)
  have HS2 : Hid (Same w w2) := Lib.hid (by
    rw [hw2]
    exact (Same.trans HS1.out hSm).setCell _ _ (fun h => by have := HR.out.1; simp at h; omega))
  have HFIN : Hid (∀ w', Only (fun k => k = r) w2 w' → FV w (.agg #[.bool b, .int .u64 0, .slice none 0 0, .bool false]) (.returned (.agg #[.bool b, .int .u64 0, .slice none 0 0, .bool false])) w') := Lib.hid (fun w' hw => ⟨rfl, new_only HS2.out hw (fun k hk => by rw [hk]; exact HR.out.1)⟩)
  have f1 : ∀ j, w2.frozen? ⟨r, j, none⟩ = false := fun j => block_free N3.out
  have d0 : w2.cell? ⟨r, 0, none⟩ = some (.bool b) := block_cell N3.out rfl
  have d1 : w2.cell? ⟨r, 1, none⟩ = some (.int .u64 0) := block_cell N3.out rfl
  have d2 : w2.cell? ⟨r, 2, none⟩ = some (.slice none 0 0) := block_cell N3.out rfl
  have d3 : w2.cell? ⟨r, 3, none⟩ = some (.bool false) := block_cell N3.out rfl
  clear hSm hw2 HTW HS1 N2 c0 c1 c2 c3 c4 c5
  go_wp2_with fail
  refine step_end rfl (stored4 N3.out _ _ _ _) (HFIN.out _ ?_)
  repeat (first | exact Only.refl _ _ | refine Only.setCell ?_ _ _ (fun _ => rfl))
set_option maxRecDepth 100000 in
set_option maxHeartbeats 1600000 in
theorem twoEquals (h : Sta w q a c l) (i j p : Nat) (r : Nat) (b : Bool) (y : It) (hy : l[j]? = some y) (hr : w.heap[r]? = some (.cells #[.bool false, .int .u64 0, .slice none 0 0, .bool false] 46 (0, 0)))
    (HC : Hid (∀ wx, Same w wx → Calls Try.prog 55 #[.pointer (some ⟨p, 0, none⟩), y.v] wx (FV wx (.bool b)))) :
    Calls Try.prog 30 #[.pointer (some ⟨q, 0, none⟩), stv { op := 7, on := i, by_ := j }, .iface 85 (.pointer (some ⟨p, 0, none⟩)), .pointer (some ⟨r, 0, none⟩)] w (AskP w r b) := by
  obtain ⟨t, u, hv⟩ : ∃ t u, y.v = .iface t u := (h.get hy).val
  rw [hv] at HC
  have HAT : Hid (∀ wx, Same w wx → Calls Try.prog 29 #[.pointer (some ⟨q, 0, none⟩), .int .i64 (j : Int)] wx (FV wx (.iface t u))) := Lib.hid (fun wx hS => by
    have := atA (h.still hS) j _ hy
    rw [hv] at this
    exact this)
  have hmth : ∀ wx, (method 255 85 (.pointer (some ⟨p, 0, none⟩)) "Equals").run Try.prog wx = .ok (55, .pointer (some ⟨p, 0, none⟩)) wx := by intro wx; kernel_rfl
  have HRB := Lib.hid hr
  clear h hy hv hr
  unfold stv
  simp only
  go_enter Try.func30, Try.ntmps30
  go_wp2_with (go_at_call 29; refine (HAT.out _ ((Only.refl _ _).alloc _)).mono ?_)
  rintro e w1 ⟨rfl, hS1⟩
  have n1 := hS1.obj (heap_alloc_new w (.cells #[.int .i64 7, .int .i64 (i : Int), .int .i64 (j : Int), .int .u64 0, .int .i64 0, .bool false] 27)) id
  have HS1 : Hid (Same w w1) := Lib.hid (Same.trans ((Only.refl _ _).alloc _) hS1)
  obtain ⟨s, hs⟩ : ∃ s, w.heap.size = s := ⟨_, rfl⟩
  rw [hs] at n1
  rw [hs]
  have c0 : w1.cell? ⟨s, 0, none⟩ = some (.int .i64 7) := block_cell n1 rfl
  clear hS1 n1 HAT
  go_wp2_with (go_at_call 55; refine (HC.out _ HS1.out).mono ?_)
  rintro e w2 ⟨rfl, hS2⟩
  have HS2 : Hid (Same w w2) := Lib.hid (Same.trans HS1.out hS2)
  have hr2 := HS2.out.obj HRB.out id
  have f0 : w2.frozen? ⟨r, 0, none⟩ = false := block_free hr2
  have d0 : w2.cell? ⟨r, 0, none⟩ = some (.bool false) := block_cell hr2 rfl
  clear hS2 hr2 c0
  go_wp2_with fail
  go_end0
  exact ⟨rfl, w2, HS2.out, rfl⟩
set_option maxRecDepth 100000 in
set_option maxHeartbeats 1600000 in
theorem stepEquals (h : Sta w q a c l) (i j p : Nat) (d : BA) (F : Nat → Prop) (hx : l[i]? = some ⟨.iface 85 (.pointer (some ⟨p, 0, none⟩)), d, F⟩) (y : It) (hy : l[j]? = some y) (b : Bool)
    (HC : Hid (∀ wx, Same w wx → Calls Try.prog 55 #[.pointer (some ⟨p, 0, none⟩), y.v] wx (FV wx (.bool b)))) :
    Calls Try.prog 24 #[.pointer (some ⟨q, 0, none⟩), stv { op := 7, on := i, by_ := j }] w (FV w (.agg #[.bool b, .int .u64 0, .slice none 0 0, .bool false])) := by
  have HTW : Hid (∀ wx r, Same w wx → wx.heap[r]? = some (.cells #[.bool false, .int .u64 0, .slice none 0 0, .bool false] 46 (0, 0)) → Calls Try.prog 30 #[.pointer (some ⟨q, 0, none⟩), stv { op := 7, on := i, by_ := j }, .iface 85 (.pointer (some ⟨p, 0, none⟩)), .pointer (some ⟨r, 0, none⟩)] wx (AskP wx r b)) := Lib.hid (fun wx r hS hr =>
    twoEquals (h.still hS) i j p r b y hy hr (Lib.hid (fun wy hy => HC.out wy (Same.trans hS hy))))
  clear HC
  have HAT : Hid (∀ wx, Same w wx → Calls Try.prog 29 #[.pointer (some ⟨q, 0, none⟩), .int .i64 (i : Int)] wx (FV wx (.iface 85 (.pointer (some ⟨p, 0, none⟩))))) := Lib.hid (fun wx hS => atA (h.still hS) i _ hx)
  clear h hx
  unfold stv at HTW ⊢
  simp only at HTW ⊢
  go_enter_defers Try.func24, Try.ntmps24
  go_wp2_with (go_at_call 29; refine (HAT.out _ ((Only.refl _ _).alloc _ |>.alloc _)).mono ?_)
  rintro e w1 ⟨rfl, hS1⟩
  obtain ⟨m1, m2, m3⟩ := step_made (w := w) (.cells #[.int .i64 (7 : Int), .int .i64 (i : Int), .int .i64 (j : Int), .int .u64 0, .int .i64 0, .bool false] 27) (.cells #[.bool false, .int .u64 0, .slice none 0 0, .bool false] 46)
  have n1 := hS1.obj m2 id
  have n2 := hS1.obj m3 id
  have HS1 : Hid (Same w w1) := Lib.hid (Same.trans m1 hS1)
  obtain ⟨s, hs⟩ : ∃ s, w.heap.size = s := ⟨_, rfl⟩
  obtain ⟨r, hr⟩ : ∃ r, w.heap.size + 1 = r := ⟨_, rfl⟩
  have HR : Hid (w.heap.size ≤ r ∧ s ≠ r ∧ w.heap.size ≤ s) := Lib.hid (by omega)
  rw [hs] at n1
  rw [hr] at n2
  rw [hr, hs]
  have c0 : w1.cell? ⟨s, 0, none⟩ = some (.int .i64 7) := block_cell n1 rfl
  have c3 : w1.cell? ⟨s, 3, none⟩ = some (.int .u64 0) := block_cell n1 rfl
  have N1 := Lib.hid n1
  have N2 := Lib.hid n2
  clear m1 m2 m3 hS1 n1 n2 HAT
  have c1 : w1.cell? ⟨s, 1, none⟩ = some (.int .i64 (i : Int)) := block_cell N1.out rfl
  have c2 : w1.cell? ⟨s, 2, none⟩ = some (.int .i64 (j : Int)) := block_cell N1.out rfl
  have c4 : w1.cell? ⟨s, 4, none⟩ = some (.int .i64 0) := block_cell N1.out rfl
  have c5 : w1.cell? ⟨s, 5, none⟩ = some (.bool false) := block_cell N1.out rfl
  go_wp2_with (go_at_call 30; refine (HTW.out _ _ HS1.out N2.out).mono ?_)
  rintro e w2 ⟨rfl, wm, hSm, hw2⟩
  have N3 : Hid (w2.heap[r]? = some (.cells #[.bool b, .int .u64 0, .slice none 0 0, .bool false] 46 (0, 0))) := Lib.hid (by rw [hw2]; exact setCell_heap (hSm.obj N2.out id) 0 _)
  have HS2 : Hid (Same w w2) := Lib.hid (by
    rw [hw2]
    exact (Same.trans HS1.out hSm).setCell _ _ (fun h => by have := HR.out.1; simp at h; omega))
  have HFIN : Hid (∀ w', Only (fun k => k = r) w2 w' → FV w (.agg #[.bool b, .int .u64 0, .slice none 0 0, .bool false]) (.returned (.agg #[.bool b, .int .u64 0, .slice none 0 0, .bool false])) w') := Lib.hid (fun w' hw => ⟨rfl, new_only HS2.out hw (fun k hk => by rw [hk]; exact HR.out.1)⟩)
  have f1 : ∀ j, w2.frozen? ⟨r, j, none⟩ = false := fun j => block_free N3.out
  have d0 : w2.cell? ⟨r, 0, none⟩ = some (.bool b) := block_cell N3.out rfl
  have d1 : w2.cell? ⟨r, 1, none⟩ = some (.int .u64 0) := block_cell N3.out rfl
  have d2 : w2.cell? ⟨r, 2, none⟩ = some (.slice none 0 0) := block_cell N3.out rfl
  have d3 : w2.cell? ⟨r, 3, none⟩ = some (.bool false) := block_cell N3.out rfl
  clear hSm hw2 HTW HS1 N2 c0 c1 c2 c3 c4 c5
  go_wp2_with fail
  refine step_end rfl (stored4 N3.out _ _ _ _) (HFIN.out _ ?_)
  repeat (first | exact Only.refl _ _ | refine Only.setCell ?_ _ _ (fun _ => rfl))
set_option maxRecDepth 100000 in
set_option maxHeartbeats 1600000 in
theorem twoEqualsS (h : Sta w q a c l) (i j p : Nat) (r : Nat) (b : Bool) (y : It) (hy : l[j]? = some y) (hr : w.heap[r]? = some (.cells #[.bool false, .int .u64 0, .slice none 0 0, .bool false] 46 (0, 0)))
    (HC : Hid (∀ wx, Same w wx → Calls Try.prog 98 #[.pointer (some ⟨p, 0, none⟩), y.v] wx (FV wx (.bool b)))) :
    Calls Try.prog 30 #[.pointer (some ⟨q, 0, none⟩), stv { op := 7, on := i, by_ := j }, .iface 87 (.pointer (some ⟨p, 0, none⟩)), .pointer (some ⟨r, 0, none⟩)] w (AskP w r b) := by
  obtain ⟨t, u, hv⟩ : ∃ t u, y.v = .iface t u := (h.get hy).val
  rw [hv] at HC
  have HAT : Hid (∀ wx, Same w wx → Calls Try.prog 29 #[.pointer (some ⟨q, 0, none⟩), .int .i64 (j : Int)] wx (FV wx (.iface t u))) := Lib.hid (fun wx hS => by
    have := atA (h.still hS) j _ hy
    rw [hv] at this
    exact this)
  have hmth : ∀ wx, (method 255 87 (.pointer (some ⟨p, 0, none⟩)) "Equals").run Try.prog wx = .ok (98, .pointer (some ⟨p, 0, none⟩)) wx := by intro wx; kernel_rfl
  have HRB := Lib.hid hr
  clear h hy hv hr
  unfold stv
  simp only
  go_enter Try.func30, Try.ntmps30
  go_wp2_with (go_at_call 29; refine (HAT.out _ ((Only.refl _ _).alloc _)).mono ?_)
  rintro e w1 ⟨rfl, hS1⟩
  have n1 := hS1.obj (heap_alloc_new w (.cells #[.int .i64 7, .int .i64 (i : Int), .int .i64 (j : Int), .int .u64 0, .int .i64 0, .bool false] 27)) id
  have HS1 : Hid (Same w w1) := Lib.hid (Same.trans ((Only.refl _ _).alloc _) hS1)
  obtain ⟨s, hs⟩ : ∃ s, w.heap.size = s := ⟨_, rfl⟩
  rw [hs] at n1
  rw [hs]
  have c0 : w1.cell? ⟨s, 0, none⟩ = some (.int .i64 7) := block_cell n1 rfl
  clear hS1 n1 HAT
  go_wp2_with (go_at_call 98; refine (HC.out _ HS1.out).mono ?_)
  rintro e w2 ⟨rfl, hS2⟩
  have HS2 : Hid (Same w w2) := Lib.hid (Same.trans HS1.out hS2)
  have hr2 := HS2.out.obj HRB.out id
  have f0 : w2.frozen? ⟨r, 0, none⟩ = false := block_free hr2
  have d0 : w2.cell? ⟨r, 0, none⟩ = some (.bool false) := block_cell hr2 rfl
  clear hS2 hr2 c0
  go_wp2_with fail
  go_end0
  exact ⟨rfl, w2, HS2.out, rfl⟩
set_option maxRecDepth 100000 in
set_option maxHeartbeats 1600000 in
theorem stepEqualsS (h : Sta w q a c l) (i j p : Nat) (d : BA) (F : Nat → Prop) (hx : l[i]? = some ⟨.iface 87 (.pointer (some ⟨p, 0, none⟩)), d, F⟩) (y : It) (hy : l[j]? = some y) (b : Bool)
    (HC : Hid (∀ wx, Same w wx → Calls Try.prog 98 #[.pointer (some ⟨p, 0, none⟩), y.v] wx (FV wx (.bool b)))) :
    Calls Try.prog 24 #[.pointer (some ⟨q, 0, none⟩), stv { op := 7, on := i, by_ := j }] w (FV w (.agg #[.bool b, .int .u64 0, .slice none 0 0, .bool false])) := by
  have HTW : Hid (∀ wx r, Same w wx → wx.heap[r]? = some (.cells #[.bool false, .int .u64 0, .slice none 0 0, .bool false] 46 (0, 0)) → Calls Try.prog 30 #[.pointer (some ⟨q, 0, none⟩), stv { op := 7, on := i, by_ := j }, .iface 87 (.pointer (some ⟨p, 0, none⟩)), .pointer (some ⟨r, 0, none⟩)] wx (AskP wx r b)) := Lib.hid (fun wx r hS hr =>
    twoEqualsS (h.still hS) i j p r b y hy hr (Lib.hid (fun wy hy => HC.out wy (Same.trans hS hy))))
  clear HC
  have HAT : Hid (∀ wx, Same w wx → Calls Try.prog 29 #[.pointer (some ⟨q, 0, none⟩), .int .i64 (i : Int)] wx (FV wx (.iface 87 (.pointer (some ⟨p, 0, none⟩))))) := Lib.hid (fun wx hS => atA (h.still hS) i _ hx)
  clear h hx
  unfold stv at HTW ⊢
  simp only at HTW ⊢
  go_enter_defers Try.func24, Try.ntmps24
  go_wp2_with (go_at_call 29; refine (HAT.out _ ((Only.refl _ _).alloc _ |>.alloc _)).mono ?_)
  rintro e w1 ⟨rfl, hS1⟩
  obtain ⟨m1, m2, m3⟩ := step_made (w := w) (.cells #[.int .i64 (7 : Int), .int .i64 (i : Int), .int .i64 (j : Int), .int .u64 0, .int .i64 0, .bool false] 27) (.cells #[.bool false, .int .u64 0, .slice none 0 0, .bool false] 46)
  have n1 := hS1.obj m2 id
  have n2 := hS1.obj m3 id
  have HS1 : Hid (Same w w1) := Lib.hid (Same.trans m1 hS1)
  obtain ⟨s, hs⟩ : ∃ s, w.heap.size = s := ⟨_, rfl⟩
  obtain ⟨r, hr⟩ : ∃ r, w.heap.size + 1 = r := ⟨_, rfl⟩
  have HR : Hid (w.heap.size ≤ r ∧ s ≠ r ∧ w.heap.size ≤ s) := Lib.hid (by omega)
  rw [hs] at n1
  rw [hr] at n2
  rw [hr, hs]
  have c0 : w1.cell? ⟨s, 0, none⟩ = some (.int .i64 7) := block_cell n1 rfl
  have c3 : w1.cell? ⟨s, 3, none⟩ = some (.int .u64 0) := block_cell n1 rfl
  have N1 := Lib.hid n1
  have N2 := Lib.hid n2
  clear m1 m2 m3 hS1 n1 n2 HAT
  have c1 : w1.cell? ⟨s, 1, none⟩ = some (.int .i64 (i : Int)) := block_cell N1.out rfl
  have c2 : w1.cell? ⟨s, 2, none⟩ = some (.int .i64 (j : Int)) := block_cell N1.out rfl
  have c4 : w1.cell? ⟨s, 4, none⟩ = some (.int .i64 0) := block_cell N1.out rfl
  have c5 : w1.cell? ⟨s, 5, none⟩ = some (.bool false) := block_cell N1.out rfl
  go_wp2_with (go_at_call 30; refine (HTW.out _ _ HS1.out N2.out).mono ?_)
  rintro e w2 ⟨rfl, wm, hSm, hw2⟩
  have N3 : Hid (w2.heap[r]? = some (.cells #[.bool b, .int .u64 0, .slice none 0 0, .bool false] 46 (0, 0))) := Lib.hid (by rw [hw2]; exact setCell_heap (hSm.obj N2.out id) 0 _)
  have HS2 : Hid (Same w w2) := Lib.hid (by
    rw [hw2]
    exact (Same.trans HS1.out hSm).setCell _ _ (fun h => by have := HR.out.1; simp at h; omega))
  have HFIN : Hid (∀ w', Only (fun k => k = r) w2 w' → FV w (.agg #[.bool b, .int .u64 0, .slice none 0 0, .bool false]) (.returned (.agg #[.bool b, .int .u64 0, .slice none 0 0, .bool false])) w') := Lib.hid (fun w' hw => ⟨rfl, new_only HS2.out hw (fun k hk => by rw [hk]; exact HR.out.1)⟩)
  have f1 : ∀ j, w2.frozen? ⟨r, j, none⟩ = false := fun j => block_free N3.out
  have d0 : w2.cell? ⟨r, 0, none⟩ = some (.bool b) := block_cell N3.out rfl
  have d1 : w2.cell? ⟨r, 1, none⟩ = some (.int .u64 0) := block_cell N3.out rfl
  have d2 : w2.cell? ⟨r, 2, none⟩ = some (.slice none 0 0) := block_cell N3.out rfl
  have d3 : w2.cell? ⟨r, 3, none⟩ = some (.bool false) := block_cell N3.out rfl
  clear hSm hw2 HTW HS1 N2 c0 c1 c2 c3 c4 c5
  go_wp2_with fail
  refine step_end rfl (stored4 N3.out _ _ _ _) (HFIN.out _ ?_)
  repeat (first | exact Only.refl _ _ | refine Only.setCell ?_ _ _ (fun _ => rfl))
end
end Go.Proofs.Ytacjkbljokjdkaa.ba

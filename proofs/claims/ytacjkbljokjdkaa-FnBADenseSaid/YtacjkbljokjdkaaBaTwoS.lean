/-
  arrays.step: what two arrays make.
-/
import Derived.Test.YtacjkbljokjdkaaBaTwo
namespace Go.Proofs.Ytacjkbljokjdkaa.ba
open Go.RowKit Go.Proofs.Ytacjkbljokjdkaa.base Go.Proofs.Ytacjkbljokjdkaa.heap Go.Proofs.Ytacjkbljokjdkaa.rows Go.Proofs.Ytacjkbljokjdkaa.bit Go.Proofs.Ytacjkbljokjdkaa.bs
set_option linter.unusedVariables false
section
variable {w : World} {q c : Nat} {a : Option Addr} {l : List It}
set_option maxRecDepth 100000 in
set_option maxHeartbeats 1600000 in
theorem stepOr (h : Sta w q a c l) (hl : l.length ≤ 1000000) (i j p : Nat) (d d' : BA) (F : Nat → Prop) (hx : l[i]? = some ⟨.iface 85 (.pointer (some ⟨p, 0, none⟩)), d, F⟩) (y : It) (hy : l[j]? = some y)
    (HC : Hid (∀ wx, Same w wx → Calls Try.prog 61 #[.pointer (some ⟨p, 0, none⟩), y.v] wx (NewA d' wx))) :
    Calls Try.prog 24 #[.pointer (some ⟨q, 0, none⟩), stv { op := 11, on := i, by_ := j }] w (MoreP q a l d' (.agg #[.bool false, .int .u64 0, .slice none 0 0, .bool false]) w) := by
  have HTW : Hid (∀ wx r, Same w wx → Calls Try.prog 30 #[.pointer (some ⟨q, 0, none⟩), stv { op := 11, on := i, by_ := j }, .iface 85 (.pointer (some ⟨p, 0, none⟩)), .pointer (some ⟨r, 0, none⟩)] wx (MoreP q a l d' (.tuple #[]) wx)) := Lib.hid (fun wx r hS =>
    twoOr (h.still hS) hl i j p r d d' F y hy (Lib.hid (fun wy hy => HC.out wy (Same.trans hS hy))))
  have H := Lib.hid h
  have HL := Lib.hid h.lt
  clear HC
  have HAT : Hid (∀ wx, Same w wx → Calls Try.prog 29 #[.pointer (some ⟨q, 0, none⟩), .int .i64 (i : Int)] wx (FV wx (.iface 85 (.pointer (some ⟨p, 0, none⟩))))) := Lib.hid (fun wx hS => atA (h.still hS) i _ hx)
  have hmth : ∀ wx, (method 255 85 (.pointer (some ⟨p, 0, none⟩)) "Or").run Try.prog wx = .ok (61, .pointer (some ⟨p, 0, none⟩)) wx := by intro wx; kernel_rfl
  clear h hx hmth
  unfold stv at HTW ⊢
  simp only at HTW ⊢
  go_enter_defers Try.func24, Try.ntmps24
  go_wp2_with (go_at_call 29; refine (HAT.out _ ((Only.refl _ _).alloc _ |>.alloc _)).mono ?_)
  rintro e w1 ⟨rfl, hS1⟩
  obtain ⟨m1, m2, m3⟩ := step_made (w := w) (.cells #[.int .i64 (11 : Int), .int .i64 (i : Int), .int .i64 (j : Int), .int .u64 0, .int .i64 0, .bool false] 27) (.cells #[.bool false, .int .u64 0, .slice none 0 0, .bool false] 46)
  have n1 := hS1.obj m2 id
  have n2 := hS1.obj m3 id
  have HS1 : Hid (Same w w1) := Lib.hid (Same.trans m1 hS1)
  obtain ⟨s, hs⟩ : ∃ s, w.heap.size = s := ⟨_, rfl⟩
  obtain ⟨r, hr⟩ : ∃ r, w.heap.size + 1 = r := ⟨_, rfl⟩
  have HR : Hid (w.heap.size ≤ r ∧ s ≠ r ∧ w.heap.size ≤ s) := Lib.hid (by omega)
  rw [hs] at n1
  rw [hr] at n2
  rw [hr, hs]
  have c0 : w1.cell? ⟨s, 0, none⟩ = some (.int .i64 11) := block_cell n1 rfl
  have c3 : w1.cell? ⟨s, 3, none⟩ = some (.int .u64 0) := block_cell n1 rfl
  have N1 := Lib.hid n1
  have N2 := Lib.hid n2
  clear m1 m2 m3 hS1 n1 n2 HAT
  have c1 : w1.cell? ⟨s, 1, none⟩ = some (.int .i64 (i : Int)) := block_cell N1.out rfl
  have c2 : w1.cell? ⟨s, 2, none⟩ = some (.int .i64 (j : Int)) := block_cell N1.out rfl
  have c4 : w1.cell? ⟨s, 4, none⟩ = some (.int .i64 0) := block_cell N1.out rfl
  have c5 : w1.cell? ⟨s, 5, none⟩ = some (.bool false) := block_cell N1.out rfl
  go_wp2_with (go_at_call 30; refine (HTW.out _ _ HS1.out).mono ?_)
  rintro e w2 ⟨rfl, a', c', y', hd, hst, ho, hfa, hfy⟩
  have hrq : ¬ (r = q ∨ At a r) := fun h => by
    have := HL.out r (h.imp id .inl); have := HR.out.1; omega
  have N3 : Hid (w2.heap[r]? = _) := Lib.hid (ho.obj N2.out hrq)
  have hrF : ¬ Fo q a' (l ++ [y']) r := fun h => by
    have h1 := lt_of_heap N2.out
    rcases h with h | h | ⟨x, hx, h⟩
    · exact hrq (.inl h)
    · rcases hfa r h with h2 | h2
      · exact hrq (.inr h2)
      · omega
    · rcases List.mem_append.1 hx with hx | hx
      · have := HL.out r (.inr (.inr ⟨x, hx, h⟩)); have := HR.out.1; omega
      · rw [List.mem_singleton] at hx
        subst hx
        have := hfy r h; omega
  have HFIN : Hid (∀ w', Only (fun k => k = r) w2 w' → MoreP q a l d' (.agg #[.bool false, .int .u64 0, .slice none 0 0, .bool false]) w (.returned (.agg #[.bool false, .int .u64 0, .slice none 0 0, .bool false])) w') := Lib.hid (fun w' hw =>
    ⟨rfl, a', c', y', hd, hst.keep hw (fun k hk e => hrF (by rw [← e]; exact hk)), ((HS1.out.mono (fun _ _ f => f.elim)).trans ho (fun _ _ h => h)).trans hw (fun k hk e => absurd HR.out.1 (by omega)), fun k hk => (hfa k hk).imp id (fun h => Nat.le_trans HS1.out.size h), fun k hk => Nat.le_trans HS1.out.size (hfy k hk)⟩)
  have f1 : ∀ j, w2.frozen? ⟨r, j, none⟩ = false := fun j => block_free N3.out
  have d0 : w2.cell? ⟨r, 0, none⟩ = some (.bool false) := block_cell N3.out rfl
  have d1 : w2.cell? ⟨r, 1, none⟩ = some (.int .u64 0) := block_cell N3.out rfl
  have d2 : w2.cell? ⟨r, 2, none⟩ = some (.slice none 0 0) := block_cell N3.out rfl
  have d3 : w2.cell? ⟨r, 3, none⟩ = some (.bool false) := block_cell N3.out rfl
  clear hd hst ho hfa hfy hrF hrq HTW HS1 N2
  go_wp2_with fail
  refine step_end rfl (stored4 N3.out _ _ _ _) (HFIN.out _ ?_)
  repeat (first | exact Only.refl _ _ | refine Only.setCell ?_ _ _ (fun _ => rfl))
set_option maxRecDepth 100000 in
set_option maxHeartbeats 1600000 in
theorem stepOrS (h : Sta w q a c l) (hl : l.length ≤ 1000000) (i j p : Nat) (d d' : BA) (F : Nat → Prop) (hx : l[i]? = some ⟨.iface 87 (.pointer (some ⟨p, 0, none⟩)), d, F⟩) (y : It) (hy : l[j]? = some y)
    (HC : Hid (∀ wx, Same w wx → Calls Try.prog 104 #[.pointer (some ⟨p, 0, none⟩), y.v] wx (NewA d' wx))) :
    Calls Try.prog 24 #[.pointer (some ⟨q, 0, none⟩), stv { op := 11, on := i, by_ := j }] w (MoreP q a l d' (.agg #[.bool false, .int .u64 0, .slice none 0 0, .bool false]) w) := by
  have HTW : Hid (∀ wx r, Same w wx → Calls Try.prog 30 #[.pointer (some ⟨q, 0, none⟩), stv { op := 11, on := i, by_ := j }, .iface 87 (.pointer (some ⟨p, 0, none⟩)), .pointer (some ⟨r, 0, none⟩)] wx (MoreP q a l d' (.tuple #[]) wx)) := Lib.hid (fun wx r hS =>
    twoOrS (h.still hS) hl i j p r d d' F y hy (Lib.hid (fun wy hy => HC.out wy (Same.trans hS hy))))
  have H := Lib.hid h
  have HL := Lib.hid h.lt
  clear HC
  have HAT : Hid (∀ wx, Same w wx → Calls Try.prog 29 #[.pointer (some ⟨q, 0, none⟩), .int .i64 (i : Int)] wx (FV wx (.iface 87 (.pointer (some ⟨p, 0, none⟩))))) := Lib.hid (fun wx hS => atA (h.still hS) i _ hx)
  have hmth : ∀ wx, (method 255 87 (.pointer (some ⟨p, 0, none⟩)) "Or").run Try.prog wx = .ok (104, .pointer (some ⟨p, 0, none⟩)) wx := by intro wx; kernel_rfl
  clear h hx hmth
  unfold stv at HTW ⊢
  simp only at HTW ⊢
  go_enter_defers Try.func24, Try.ntmps24
  go_wp2_with (go_at_call 29; refine (HAT.out _ ((Only.refl _ _).alloc _ |>.alloc _)).mono ?_)
  rintro e w1 ⟨rfl, hS1⟩
  obtain ⟨m1, m2, m3⟩ := step_made (w := w) (.cells #[.int .i64 (11 : Int), .int .i64 (i : Int), .int .i64 (j : Int), .int .u64 0, .int .i64 0, .bool false] 27) (.cells #[.bool false, .int .u64 0, .slice none 0 0, .bool false] 46)
  have n1 := hS1.obj m2 id
  have n2 := hS1.obj m3 id
  have HS1 : Hid (Same w w1) := Lib.hid (Same.trans m1 hS1)
  obtain ⟨s, hs⟩ : ∃ s, w.heap.size = s := ⟨_, rfl⟩
  obtain ⟨r, hr⟩ : ∃ r, w.heap.size + 1 = r := ⟨_, rfl⟩
  have HR : Hid (w.heap.size ≤ r ∧ s ≠ r ∧ w.heap.size ≤ s) := Lib.hid (by omega)
  rw [hs] at n1
  rw [hr] at n2
  rw [hr, hs]
  have c0 : w1.cell? ⟨s, 0, none⟩ = some (.int .i64 11) := block_cell n1 rfl
  have c3 : w1.cell? ⟨s, 3, none⟩ = some (.int .u64 0) := block_cell n1 rfl
  have N1 := Lib.hid n1
  have N2 := Lib.hid n2
  clear m1 m2 m3 hS1 n1 n2 HAT
  have c1 : w1.cell? ⟨s, 1, none⟩ = some (.int .i64 (i : Int)) := block_cell N1.out rfl
  have c2 : w1.cell? ⟨s, 2, none⟩ = some (.int .i64 (j : Int)) := block_cell N1.out rfl
  have c4 : w1.cell? ⟨s, 4, none⟩ = some (.int .i64 0) := block_cell N1.out rfl
  have c5 : w1.cell? ⟨s, 5, none⟩ = some (.bool false) := block_cell N1.out rfl
  go_wp2_with (go_at_call 30; refine (HTW.out _ _ HS1.out).mono ?_)
  rintro e w2 ⟨rfl, a', c', y', hd, hst, ho, hfa, hfy⟩
  have hrq : ¬ (r = q ∨ At a r) := fun h => by
    have := HL.out r (h.imp id .inl); have := HR.out.1; omega
  have N3 : Hid (w2.heap[r]? = _) := Lib.hid (ho.obj N2.out hrq)
  have hrF : ¬ Fo q a' (l ++ [y']) r := fun h => by
    have h1 := lt_of_heap N2.out
    rcases h with h | h | ⟨x, hx, h⟩
    · exact hrq (.inl h)
    · rcases hfa r h with h2 | h2
      · exact hrq (.inr h2)
      · omega
    · rcases List.mem_append.1 hx with hx | hx
      · have := HL.out r (.inr (.inr ⟨x, hx, h⟩)); have := HR.out.1; omega
      · rw [List.mem_singleton] at hx
        subst hx
        have := hfy r h; omega
  have HFIN : Hid (∀ w', Only (fun k => k = r) w2 w' → MoreP q a l d' (.agg #[.bool false, .int .u64 0, .slice none 0 0, .bool false]) w (.returned (.agg #[.bool false, .int .u64 0, .slice none 0 0, .bool false])) w') := Lib.hid (fun w' hw =>
    ⟨rfl, a', c', y', hd, hst.keep hw (fun k hk e => hrF (by rw [← e]; exact hk)), ((HS1.out.mono (fun _ _ f => f.elim)).trans ho (fun _ _ h => h)).trans hw (fun k hk e => absurd HR.out.1 (by omega)), fun k hk => (hfa k hk).imp id (fun h => Nat.le_trans HS1.out.size h), fun k hk => Nat.le_trans HS1.out.size (hfy k hk)⟩)
  have f1 : ∀ j, w2.frozen? ⟨r, j, none⟩ = false := fun j => block_free N3.out
  have d0 : w2.cell? ⟨r, 0, none⟩ = some (.bool false) := block_cell N3.out rfl
  have d1 : w2.cell? ⟨r, 1, none⟩ = some (.int .u64 0) := block_cell N3.out rfl
  have d2 : w2.cell? ⟨r, 2, none⟩ = some (.slice none 0 0) := block_cell N3.out rfl
  have d3 : w2.cell? ⟨r, 3, none⟩ = some (.bool false) := block_cell N3.out rfl
  clear hd hst ho hfa hfy hrF hrq HTW HS1 N2
  go_wp2_with fail
  refine step_end rfl (stored4 N3.out _ _ _ _) (HFIN.out _ ?_)
  repeat (first | exact Only.refl _ _ | refine Only.setCell ?_ _ _ (fun _ => rfl))
set_option maxRecDepth 100000 in
set_option maxHeartbeats 1600000 in
theorem stepAnd (h : Sta w q a c l) (hl : l.length ≤ 1000000) (i j p : Nat) (d d' : BA) (F : Nat → Prop) (hx : l[i]? = some ⟨.iface 85 (.pointer (some ⟨p, 0, none⟩)), d, F⟩) (y : It) (hy : l[j]? = some y)
    (HC : Hid (∀ wx, Same w wx → Calls Try.prog 50 #[.pointer (some ⟨p, 0, none⟩), y.v] wx (NewA d' wx))) :
    Calls Try.prog 24 #[.pointer (some ⟨q, 0, none⟩), stv { op := 12, on := i, by_ := j }] w (MoreP q a l d' (.agg #[.bool false, .int .u64 0, .slice none 0 0, .bool false]) w) := by
  have HTW : Hid (∀ wx r, Same w wx → Calls Try.prog 30 #[.pointer (some ⟨q, 0, none⟩), stv { op := 12, on := i, by_ := j }, .iface 85 (.pointer (some ⟨p, 0, none⟩)), .pointer (some ⟨r, 0, none⟩)] wx (MoreP q a l d' (.tuple #[]) wx)) := Lib.hid (fun wx r hS =>
    twoAnd (h.still hS) hl i j p r d d' F y hy (Lib.hid (fun wy hy => HC.out wy (Same.trans hS hy))))
  have H := Lib.hid h
  have HL := Lib.hid h.lt
  clear HC
  have HAT : Hid (∀ wx, Same w wx → Calls Try.prog 29 #[.pointer (some ⟨q, 0, none⟩), .int .i64 (i : Int)] wx (FV wx (.iface 85 (.pointer (some ⟨p, 0, none⟩))))) := Lib.hid (fun wx hS => atA (h.still hS) i _ hx)
  have hmth : ∀ wx, (method 255 85 (.pointer (some ⟨p, 0, none⟩)) "And").run Try.prog wx = .ok (50, .pointer (some ⟨p, 0, none⟩)) wx := by intro wx; kernel_rfl
  clear h hx hmth
  unfold stv at HTW ⊢
  simp only at HTW ⊢
  go_enter_defers Try.func24, Try.ntmps24
  go_wp2_with (go_at_call 29; refine (HAT.out _ ((Only.refl _ _).alloc _ |>.alloc _)).mono ?_)
  rintro e w1 ⟨rfl, hS1⟩
  obtain ⟨m1, m2, m3⟩ := step_made (w := w) (.cells #[.int .i64 (12 : Int), .int .i64 (i : Int), .int .i64 (j : Int), .int .u64 0, .int .i64 0, .bool false] 27) (.cells #[.bool false, .int .u64 0, .slice none 0 0, .bool false] 46)
  have n1 := hS1.obj m2 id
  have n2 := hS1.obj m3 id
  have HS1 : Hid (Same w w1) := Lib.hid (Same.trans m1 hS1)
  obtain ⟨s, hs⟩ : ∃ s, w.heap.size = s := ⟨_, rfl⟩
  obtain ⟨r, hr⟩ : ∃ r, w.heap.size + 1 = r := ⟨_, rfl⟩
  have HR : Hid (w.heap.size ≤ r ∧ s ≠ r ∧ w.heap.size ≤ s) := Lib.hid (by omega)
  rw [hs] at n1
  rw [hr] at n2
  rw [hr, hs]
  have c0 : w1.cell? ⟨s, 0, none⟩ = some (.int .i64 12) := block_cell n1 rfl
  have c3 : w1.cell? ⟨s, 3, none⟩ = some (.int .u64 0) := block_cell n1 rfl
  have N1 := Lib.hid n1
  have N2 := Lib.hid n2
  clear m1 m2 m3 hS1 n1 n2 HAT
  have c1 : w1.cell? ⟨s, 1, none⟩ = some (.int .i64 (i : Int)) := block_cell N1.out rfl
  have c2 : w1.cell? ⟨s, 2, none⟩ = some (.int .i64 (j : Int)) := block_cell N1.out rfl
  have c4 : w1.cell? ⟨s, 4, none⟩ = some (.int .i64 0) := block_cell N1.out rfl
  have c5 : w1.cell? ⟨s, 5, none⟩ = some (.bool false) := block_cell N1.out rfl
  go_wp2_with (go_at_call 30; refine (HTW.out _ _ HS1.out).mono ?_)
  rintro e w2 ⟨rfl, a', c', y', hd, hst, ho, hfa, hfy⟩
  have hrq : ¬ (r = q ∨ At a r) := fun h => by
    have := HL.out r (h.imp id .inl); have := HR.out.1; omega
  have N3 : Hid (w2.heap[r]? = _) := Lib.hid (ho.obj N2.out hrq)
  have hrF : ¬ Fo q a' (l ++ [y']) r := fun h => by
    have h1 := lt_of_heap N2.out
    rcases h with h | h | ⟨x, hx, h⟩
    · exact hrq (.inl h)
    · rcases hfa r h with h2 | h2
      · exact hrq (.inr h2)
      · omega
    · rcases List.mem_append.1 hx with hx | hx
      · have := HL.out r (.inr (.inr ⟨x, hx, h⟩)); have := HR.out.1; omega
      · rw [List.mem_singleton] at hx
        subst hx
        have := hfy r h; omega
  have HFIN : Hid (∀ w', Only (fun k => k = r) w2 w' → MoreP q a l d' (.agg #[.bool false, .int .u64 0, .slice none 0 0, .bool false]) w (.returned (.agg #[.bool false, .int .u64 0, .slice none 0 0, .bool false])) w') := Lib.hid (fun w' hw =>
    ⟨rfl, a', c', y', hd, hst.keep hw (fun k hk e => hrF (by rw [← e]; exact hk)), ((HS1.out.mono (fun _ _ f => f.elim)).trans ho (fun _ _ h => h)).trans hw (fun k hk e => absurd HR.out.1 (by omega)), fun k hk => (hfa k hk).imp id (fun h => Nat.le_trans HS1.out.size h), fun k hk => Nat.le_trans HS1.out.size (hfy k hk)⟩)
  have f1 : ∀ j, w2.frozen? ⟨r, j, none⟩ = false := fun j => block_free N3.out
  have d0 : w2.cell? ⟨r, 0, none⟩ = some (.bool false) := block_cell N3.out rfl
  have d1 : w2.cell? ⟨r, 1, none⟩ = some (.int .u64 0) := block_cell N3.out rfl
  have d2 : w2.cell? ⟨r, 2, none⟩ = some (.slice none 0 0) := block_cell N3.out rfl
  have d3 : w2.cell? ⟨r, 3, none⟩ = some (.bool false) := block_cell N3.out rfl
  clear hd hst ho hfa hfy hrF hrq HTW HS1 N2
  go_wp2_with fail
  refine step_end rfl (stored4 N3.out _ _ _ _) (HFIN.out _ ?_)
  repeat (first | exact Only.refl _ _ | refine Only.setCell ?_ _ _ (fun _ => rfl))
set_option maxRecDepth 100000 in
set_option maxHeartbeats 1600000 in
theorem stepAndS (h : Sta w q a c l) (hl : l.length ≤ 1000000) (i j p : Nat) (d d' : BA) (F : Nat → Prop) (hx : l[i]? = some ⟨.iface 87 (.pointer (some ⟨p, 0, none⟩)), d, F⟩) (y : It) (hy : l[j]? = some y)
    (HC : Hid (∀ wx, Same w wx → Calls Try.prog 94 #[.pointer (some ⟨p, 0, none⟩), y.v] wx (NewA d' wx))) :
    Calls Try.prog 24 #[.pointer (some ⟨q, 0, none⟩), stv { op := 12, on := i, by_ := j }] w (MoreP q a l d' (.agg #[.bool false, .int .u64 0, .slice none 0 0, .bool false]) w) := by
  have HTW : Hid (∀ wx r, Same w wx → Calls Try.prog 30 #[.pointer (some ⟨q, 0, none⟩), stv { op := 12, on := i, by_ := j }, .iface 87 (.pointer (some ⟨p, 0, none⟩)), .pointer (some ⟨r, 0, none⟩)] wx (MoreP q a l d' (.tuple #[]) wx)) := Lib.hid (fun wx r hS =>
    twoAndS (h.still hS) hl i j p r d d' F y hy (Lib.hid (fun wy hy => HC.out wy (Same.trans hS hy))))
  have H := Lib.hid h
  have HL := Lib.hid h.lt
  clear HC
  have HAT : Hid (∀ wx, Same w wx → Calls Try.prog 29 #[.pointer (some ⟨q, 0, none⟩), .int .i64 (i : Int)] wx (FV wx (.iface 87 (.pointer (some ⟨p, 0, none⟩))))) := Lib.hid (fun wx hS => atA (h.still hS) i _ hx)
  have hmth : ∀ wx, (method 255 87 (.pointer (some ⟨p, 0, none⟩)) "And").run Try.prog wx = .ok (94, .pointer (some ⟨p, 0, none⟩)) wx := by intro wx; kernel_rfl
  clear h hx hmth
  unfold stv at HTW ⊢
  simp only at HTW ⊢
  go_enter_defers Try.func24, Try.ntmps24
  go_wp2_with (go_at_call 29; refine (HAT.out _ ((Only.refl _ _).alloc _ |>.alloc _)).mono ?_)
  rintro e w1 ⟨rfl, hS1⟩
  obtain ⟨m1, m2, m3⟩ := step_made (w := w) (.cells #[.int .i64 (12 : Int), .int .i64 (i : Int), .int .i64 (j : Int), .int .u64 0, .int .i64 0, .bool false] 27) (.cells #[.bool false, .int .u64 0, .slice none 0 0, .bool false] 46)
  have n1 := hS1.obj m2 id
  have n2 := hS1.obj m3 id
  have HS1 : Hid (Same w w1) := Lib.hid (Same.trans m1 hS1)
  obtain ⟨s, hs⟩ : ∃ s, w.heap.size = s := ⟨_, rfl⟩
  obtain ⟨r, hr⟩ : ∃ r, w.heap.size + 1 = r := ⟨_, rfl⟩
  have HR : Hid (w.heap.size ≤ r ∧ s ≠ r ∧ w.heap.size ≤ s) := Lib.hid (by omega)
  rw [hs] at n1
  rw [hr] at n2
  rw [hr, hs]
  have c0 : w1.cell? ⟨s, 0, none⟩ = some (.int .i64 12) := block_cell n1 rfl
  have c3 : w1.cell? ⟨s, 3, none⟩ = some (.int .u64 0) := block_cell n1 rfl
  have N1 := Lib.hid n1
  have N2 := Lib.hid n2
  clear m1 m2 m3 hS1 n1 n2 HAT
  have c1 : w1.cell? ⟨s, 1, none⟩ = some (.int .i64 (i : Int)) := block_cell N1.out rfl
  have c2 : w1.cell? ⟨s, 2, none⟩ = some (.int .i64 (j : Int)) := block_cell N1.out rfl
  have c4 : w1.cell? ⟨s, 4, none⟩ = some (.int .i64 0) := block_cell N1.out rfl
  have c5 : w1.cell? ⟨s, 5, none⟩ = some (.bool false) := block_cell N1.out rfl
  go_wp2_with (go_at_call 30; refine (HTW.out _ _ HS1.out).mono ?_)
  rintro e w2 ⟨rfl, a', c', y', hd, hst, ho, hfa, hfy⟩
  have hrq : ¬ (r = q ∨ At a r) := fun h => by
    have := HL.out r (h.imp id .inl); have := HR.out.1; omega
  have N3 : Hid (w2.heap[r]? = _) := Lib.hid (ho.obj N2.out hrq)
  have hrF : ¬ Fo q a' (l ++ [y']) r := fun h => by
    have h1 := lt_of_heap N2.out
    rcases h with h | h | ⟨x, hx, h⟩
    · exact hrq (.inl h)
    · rcases hfa r h with h2 | h2
      · exact hrq (.inr h2)
      · omega
    · rcases List.mem_append.1 hx with hx | hx
      · have := HL.out r (.inr (.inr ⟨x, hx, h⟩)); have := HR.out.1; omega
      · rw [List.mem_singleton] at hx
        subst hx
        have := hfy r h; omega
  have HFIN : Hid (∀ w', Only (fun k => k = r) w2 w' → MoreP q a l d' (.agg #[.bool false, .int .u64 0, .slice none 0 0, .bool false]) w (.returned (.agg #[.bool false, .int .u64 0, .slice none 0 0, .bool false])) w') := Lib.hid (fun w' hw =>
    ⟨rfl, a', c', y', hd, hst.keep hw (fun k hk e => hrF (by rw [← e]; exact hk)), ((HS1.out.mono (fun _ _ f => f.elim)).trans ho (fun _ _ h => h)).trans hw (fun k hk e => absurd HR.out.1 (by omega)), fun k hk => (hfa k hk).imp id (fun h => Nat.le_trans HS1.out.size h), fun k hk => Nat.le_trans HS1.out.size (hfy k hk)⟩)
  have f1 : ∀ j, w2.frozen? ⟨r, j, none⟩ = false := fun j => block_free N3.out
  have d0 : w2.cell? ⟨r, 0, none⟩ = some (.bool false) := block_cell N3.out rfl
  have d1 : w2.cell? ⟨r, 1, none⟩ = some (.int .u64 0) := block_cell N3.out rfl
  have d2 : w2.cell? ⟨r, 2, none⟩ = some (.slice none 0 0) := block_cell N3.out rfl
  have d3 : w2.cell? ⟨r, 3, none⟩ = some (.bool false) := block_cell N3.out rfl
  clear hd hst ho hfa hfy hrF hrq HTW HS1 N2
  go_wp2_with fail
  refine step_end rfl (stored4 N3.out _ _ _ _) (HFIN.out _ ?_)
  repeat (first | exact Only.refl _ _ | refine Only.setCell ?_ _ _ (fun _ => rfl))
set_option maxRecDepth 100000 in
set_option maxHeartbeats 1600000 in
theorem stepNand (h : Sta w q a c l) (hl : l.length ≤ 1000000) (i j p : Nat) (d d' : BA) (F : Nat → Prop) (hx : l[i]? = some ⟨.iface 85 (.pointer (some ⟨p, 0, none⟩)), d, F⟩) (y : It) (hy : l[j]? = some y)
    (HC : Hid (∀ wx, Same w wx → Calls Try.prog 60 #[.pointer (some ⟨p, 0, none⟩), y.v] wx (NewA d' wx))) :
    Calls Try.prog 24 #[.pointer (some ⟨q, 0, none⟩), stv { op := 13, on := i, by_ := j }] w (MoreP q a l d' (.agg #[.bool false, .int .u64 0, .slice none 0 0, .bool false]) w) := by
  have HTW : Hid (∀ wx r, Same w wx → Calls Try.prog 30 #[.pointer (some ⟨q, 0, none⟩), stv { op := 13, on := i, by_ := j }, .iface 85 (.pointer (some ⟨p, 0, none⟩)), .pointer (some ⟨r, 0, none⟩)] wx (MoreP q a l d' (.tuple #[]) wx)) := Lib.hid (fun wx r hS =>
    twoNand (h.still hS) hl i j p r d d' F y hy (Lib.hid (fun wy hy => HC.out wy (Same.trans hS hy))))
  have H := Lib.hid h
  have HL := Lib.hid h.lt
  clear HC
  have HAT : Hid (∀ wx, Same w wx → Calls Try.prog 29 #[.pointer (some ⟨q, 0, none⟩), .int .i64 (i : Int)] wx (FV wx (.iface 85 (.pointer (some ⟨p, 0, none⟩))))) := Lib.hid (fun wx hS => atA (h.still hS) i _ hx)
  have hmth : ∀ wx, (method 255 85 (.pointer (some ⟨p, 0, none⟩)) "Nand").run Try.prog wx = .ok (60, .pointer (some ⟨p, 0, none⟩)) wx := by intro wx; kernel_rfl
  clear h hx hmth
  unfold stv at HTW ⊢
  simp only at HTW ⊢
  go_enter_defers Try.func24, Try.ntmps24
  go_wp2_with (go_at_call 29; refine (HAT.out _ ((Only.refl _ _).alloc _ |>.alloc _)).mono ?_)
  rintro e w1 ⟨rfl, hS1⟩
  obtain ⟨m1, m2, m3⟩ := step_made (w := w) (.cells #[.int .i64 (13 : Int), .int .i64 (i : Int), .int .i64 (j : Int), .int .u64 0, .int .i64 0, .bool false] 27) (.cells #[.bool false, .int .u64 0, .slice none 0 0, .bool false] 46)
  have n1 := hS1.obj m2 id
  have n2 := hS1.obj m3 id
  have HS1 : Hid (Same w w1) := Lib.hid (Same.trans m1 hS1)
  obtain ⟨s, hs⟩ : ∃ s, w.heap.size = s := ⟨_, rfl⟩
  obtain ⟨r, hr⟩ : ∃ r, w.heap.size + 1 = r := ⟨_, rfl⟩
  have HR : Hid (w.heap.size ≤ r ∧ s ≠ r ∧ w.heap.size ≤ s) := Lib.hid (by omega)
  rw [hs] at n1
  rw [hr] at n2
  rw [hr, hs]
  have c0 : w1.cell? ⟨s, 0, none⟩ = some (.int .i64 13) := block_cell n1 rfl
  have c3 : w1.cell? ⟨s, 3, none⟩ = some (.int .u64 0) := block_cell n1 rfl
  have N1 := Lib.hid n1
  have N2 := Lib.hid n2
  clear m1 m2 m3 hS1 n1 n2 HAT
  have c1 : w1.cell? ⟨s, 1, none⟩ = some (.int .i64 (i : Int)) := block_cell N1.out rfl
  have c2 : w1.cell? ⟨s, 2, none⟩ = some (.int .i64 (j : Int)) := block_cell N1.out rfl
  have c4 : w1.cell? ⟨s, 4, none⟩ = some (.int .i64 0) := block_cell N1.out rfl
  have c5 : w1.cell? ⟨s, 5, none⟩ = some (.bool false) := block_cell N1.out rfl
  go_wp2_with (go_at_call 30; refine (HTW.out _ _ HS1.out).mono ?_)
  rintro e w2 ⟨rfl, a', c', y', hd, hst, ho, hfa, hfy⟩
  have hrq : ¬ (r = q ∨ At a r) := fun h => by
    have := HL.out r (h.imp id .inl); have := HR.out.1; omega
  have N3 : Hid (w2.heap[r]? = _) := Lib.hid (ho.obj N2.out hrq)
  have hrF : ¬ Fo q a' (l ++ [y']) r := fun h => by
    have h1 := lt_of_heap N2.out
    rcases h with h | h | ⟨x, hx, h⟩
    · exact hrq (.inl h)
    · rcases hfa r h with h2 | h2
      · exact hrq (.inr h2)
      · omega
    · rcases List.mem_append.1 hx with hx | hx
      · have := HL.out r (.inr (.inr ⟨x, hx, h⟩)); have := HR.out.1; omega
      · rw [List.mem_singleton] at hx
        subst hx
        have := hfy r h; omega
  have HFIN : Hid (∀ w', Only (fun k => k = r) w2 w' → MoreP q a l d' (.agg #[.bool false, .int .u64 0, .slice none 0 0, .bool false]) w (.returned (.agg #[.bool false, .int .u64 0, .slice none 0 0, .bool false])) w') := Lib.hid (fun w' hw =>
    ⟨rfl, a', c', y', hd, hst.keep hw (fun k hk e => hrF (by rw [← e]; exact hk)), ((HS1.out.mono (fun _ _ f => f.elim)).trans ho (fun _ _ h => h)).trans hw (fun k hk e => absurd HR.out.1 (by omega)), fun k hk => (hfa k hk).imp id (fun h => Nat.le_trans HS1.out.size h), fun k hk => Nat.le_trans HS1.out.size (hfy k hk)⟩)
  have f1 : ∀ j, w2.frozen? ⟨r, j, none⟩ = false := fun j => block_free N3.out
  have d0 : w2.cell? ⟨r, 0, none⟩ = some (.bool false) := block_cell N3.out rfl
  have d1 : w2.cell? ⟨r, 1, none⟩ = some (.int .u64 0) := block_cell N3.out rfl
  have d2 : w2.cell? ⟨r, 2, none⟩ = some (.slice none 0 0) := block_cell N3.out rfl
  have d3 : w2.cell? ⟨r, 3, none⟩ = some (.bool false) := block_cell N3.out rfl
  clear hd hst ho hfa hfy hrF hrq HTW HS1 N2
  go_wp2_with fail
  refine step_end rfl (stored4 N3.out _ _ _ _) (HFIN.out _ ?_)
  repeat (first | exact Only.refl _ _ | refine Only.setCell ?_ _ _ (fun _ => rfl))
set_option maxRecDepth 100000 in
set_option maxHeartbeats 1600000 in
theorem stepNandS (h : Sta w q a c l) (hl : l.length ≤ 1000000) (i j p : Nat) (d d' : BA) (F : Nat → Prop) (hx : l[i]? = some ⟨.iface 87 (.pointer (some ⟨p, 0, none⟩)), d, F⟩) (y : It) (hy : l[j]? = some y)
    (HC : Hid (∀ wx, Same w wx → Calls Try.prog 103 #[.pointer (some ⟨p, 0, none⟩), y.v] wx (NewA d' wx))) :
    Calls Try.prog 24 #[.pointer (some ⟨q, 0, none⟩), stv { op := 13, on := i, by_ := j }] w (MoreP q a l d' (.agg #[.bool false, .int .u64 0, .slice none 0 0, .bool false]) w) := by
  have HTW : Hid (∀ wx r, Same w wx → Calls Try.prog 30 #[.pointer (some ⟨q, 0, none⟩), stv { op := 13, on := i, by_ := j }, .iface 87 (.pointer (some ⟨p, 0, none⟩)), .pointer (some ⟨r, 0, none⟩)] wx (MoreP q a l d' (.tuple #[]) wx)) := Lib.hid (fun wx r hS =>
    twoNandS (h.still hS) hl i j p r d d' F y hy (Lib.hid (fun wy hy => HC.out wy (Same.trans hS hy))))
  have H := Lib.hid h
  have HL := Lib.hid h.lt
  clear HC
  have HAT : Hid (∀ wx, Same w wx → Calls Try.prog 29 #[.pointer (some ⟨q, 0, none⟩), .int .i64 (i : Int)] wx (FV wx (.iface 87 (.pointer (some ⟨p, 0, none⟩))))) := Lib.hid (fun wx hS => atA (h.still hS) i _ hx)
  have hmth : ∀ wx, (method 255 87 (.pointer (some ⟨p, 0, none⟩)) "Nand").run Try.prog wx = .ok (103, .pointer (some ⟨p, 0, none⟩)) wx := by intro wx; kernel_rfl
  clear h hx hmth
  unfold stv at HTW ⊢
  simp only at HTW ⊢
  go_enter_defers Try.func24, Try.ntmps24
  go_wp2_with (go_at_call 29; refine (HAT.out _ ((Only.refl _ _).alloc _ |>.alloc _)).mono ?_)
  rintro e w1 ⟨rfl, hS1⟩
  obtain ⟨m1, m2, m3⟩ := step_made (w := w) (.cells #[.int .i64 (13 : Int), .int .i64 (i : Int), .int .i64 (j : Int), .int .u64 0, .int .i64 0, .bool false] 27) (.cells #[.bool false, .int .u64 0, .slice none 0 0, .bool false] 46)
  have n1 := hS1.obj m2 id
  have n2 := hS1.obj m3 id
  have HS1 : Hid (Same w w1) := Lib.hid (Same.trans m1 hS1)
  obtain ⟨s, hs⟩ : ∃ s, w.heap.size = s := ⟨_, rfl⟩
  obtain ⟨r, hr⟩ : ∃ r, w.heap.size + 1 = r := ⟨_, rfl⟩
  have HR : Hid (w.heap.size ≤ r ∧ s ≠ r ∧ w.heap.size ≤ s) := Lib.hid (by omega)
  rw [hs] at n1
  rw [hr] at n2
  rw [hr, hs]
  have c0 : w1.cell? ⟨s, 0, none⟩ = some (.int .i64 13) := block_cell n1 rfl
  have c3 : w1.cell? ⟨s, 3, none⟩ = some (.int .u64 0) := block_cell n1 rfl
  have N1 := Lib.hid n1
  have N2 := Lib.hid n2
  clear m1 m2 m3 hS1 n1 n2 HAT
  have c1 : w1.cell? ⟨s, 1, none⟩ = some (.int .i64 (i : Int)) := block_cell N1.out rfl
  have c2 : w1.cell? ⟨s, 2, none⟩ = some (.int .i64 (j : Int)) := block_cell N1.out rfl
  have c4 : w1.cell? ⟨s, 4, none⟩ = some (.int .i64 0) := block_cell N1.out rfl
  have c5 : w1.cell? ⟨s, 5, none⟩ = some (.bool false) := block_cell N1.out rfl
  go_wp2_with (go_at_call 30; refine (HTW.out _ _ HS1.out).mono ?_)
  rintro e w2 ⟨rfl, a', c', y', hd, hst, ho, hfa, hfy⟩
  have hrq : ¬ (r = q ∨ At a r) := fun h => by
    have := HL.out r (h.imp id .inl); have := HR.out.1; omega
  have N3 : Hid (w2.heap[r]? = _) := Lib.hid (ho.obj N2.out hrq)
  have hrF : ¬ Fo q a' (l ++ [y']) r := fun h => by
    have h1 := lt_of_heap N2.out
    rcases h with h | h | ⟨x, hx, h⟩
    · exact hrq (.inl h)
    · rcases hfa r h with h2 | h2
      · exact hrq (.inr h2)
      · omega
    · rcases List.mem_append.1 hx with hx | hx
      · have := HL.out r (.inr (.inr ⟨x, hx, h⟩)); have := HR.out.1; omega
      · rw [List.mem_singleton] at hx
        subst hx
        have := hfy r h; omega
  have HFIN : Hid (∀ w', Only (fun k => k = r) w2 w' → MoreP q a l d' (.agg #[.bool false, .int .u64 0, .slice none 0 0, .bool false]) w (.returned (.agg #[.bool false, .int .u64 0, .slice none 0 0, .bool false])) w') := Lib.hid (fun w' hw =>
    ⟨rfl, a', c', y', hd, hst.keep hw (fun k hk e => hrF (by rw [← e]; exact hk)), ((HS1.out.mono (fun _ _ f => f.elim)).trans ho (fun _ _ h => h)).trans hw (fun k hk e => absurd HR.out.1 (by omega)), fun k hk => (hfa k hk).imp id (fun h => Nat.le_trans HS1.out.size h), fun k hk => Nat.le_trans HS1.out.size (hfy k hk)⟩)
  have f1 : ∀ j, w2.frozen? ⟨r, j, none⟩ = false := fun j => block_free N3.out
  have d0 : w2.cell? ⟨r, 0, none⟩ = some (.bool false) := block_cell N3.out rfl
  have d1 : w2.cell? ⟨r, 1, none⟩ = some (.int .u64 0) := block_cell N3.out rfl
  have d2 : w2.cell? ⟨r, 2, none⟩ = some (.slice none 0 0) := block_cell N3.out rfl
  have d3 : w2.cell? ⟨r, 3, none⟩ = some (.bool false) := block_cell N3.out rfl
  clear hd hst ho hfa hfy hrF hrq HTW HS1 N2
  go_wp2_with fail
  refine step_end rfl (stored4 N3.out _ _ _ _) (HFIN.out _ ?_)
  repeat (first | exact Only.refl _ _ | refine Only.setCell ?_ _ _ (fun _ => rfl))
end
end Go.Proofs.Ytacjkbljokjdkaa.ba

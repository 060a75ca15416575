/-
  The graph's error values; grError of the thin package.
-/
import Derived.Test.YtpccodjmjgfloaaDoorBase
import Derived.Test.YtpccodjmjgfloaaDoorRw
import Derived.Test.YtpccodjmjgfloaaDoorMapS
import Derived.LaidEql
import Derived.WideLaws
import Derived.Lib.IfaceEq
namespace Go.Proofs.YtpccodjmjgfloaaDoor.gr
open Go.RowKit Go.Proofs.YtpccodjmjgfloaaDoor.base Go.Proofs.YtpccodjmjgfloaaDoor.heap Go.Proofs.YtpccodjmjgfloaaDoor.rows
set_option linter.unusedVariables false

/-- the type of errors.New's errors -/
abbrev ET : Nat := 67
def blockIs (W : World) (b : Nat) : Prop := ∃ c t, W.heap[b]? = some (.cells c t (0, 0))
/-- what the three variables hold -/
structure Errs (W : World) (a0 a1 a2 : Addr) : Prop where
  g0 : W.cell? ⟨0, 0, none⟩ = some (.iface ET (.pointer (some a0)))
  g1 : W.cell? ⟨1, 0, none⟩ = some (.iface ET (.pointer (some a1)))
  g2 : W.cell? ⟨2, 0, none⟩ = some (.iface ET (.pointer (some a2)))
  b0 : blockIs W a0.block
  b1 : blockIs W a1.block
  b2 : blockIs W a2.block
  ne01 : a0 ≠ a1
  ne02 : a0 ≠ a2
  ne12 : a1 ≠ a2
theorem blockIs.still {w w' : World} {b : Nat} (h : blockIs w b) (hS : Same w w') : blockIs w' b := by
  obtain ⟨c, t, hb⟩ := h
  exact ⟨c, t, heap_still hS hb⟩
theorem Errs.still {w w' : World} {a0 a1 a2 : Addr} (h : Errs w a0 a1 a2) (hS : Same w w') : Errs w' a0 a1 a2 := by
  have hc : ∀ {p : Addr} {v : Value}, w.cell? p = some v → w'.cell? p = some v := fun {p v} hp => (hS.cell (World.block_lt_of_cell? w _ hp) id).trans hp
  exact ⟨hc h.g0, hc h.g1, hc h.g2, h.b0.still hS, h.b1.still hS, h.b2.still hS, h.ne01, h.ne02, h.ne12⟩

/-- the error values by their numbers -/
def errV (a0 a1 a2 : Addr) : Nat → Value
  | 0 => .nilIface
  | 1 => .iface ET (.pointer (some a0))
  | 2 => .iface ET (.pointer (some a1))
  | _ => .iface ET (.pointer (some a2))

theorem infoET : ∃ i, Tryd.prog.info? ET = some i ∧ i.comparable = true := by
  have h : (Tryd.prog.info? ET).map (·.comparable) = some true := by kernel_rfl
  exact Option.map_eq_some_iff.1 h
theorem ptrET : ∃ te j, Tryd.prog.underlying ET = some (.pointer te) ∧ Tryd.prog.info? te = some j ∧ j.size ≠ 0 := by
  have h : (Tryd.prog.info? 84).map (·.size) = some 1 := by kernel_rfl
  obtain ⟨j, hj, hs⟩ := Option.map_eq_some_iff.1 h
  exact ⟨_, j, Tryd.underlying67, hj, by omega⟩
theorem eql_same (w : World) (a : Addr) : (binOp .eql 47 (.iface ET (.pointer (some a))) (.iface ET (.pointer (some a)))).run Tryd.prog w = .ok (.bool true) w := by
  obtain ⟨i, hi, hc⟩ := infoET
  obtain ⟨te, j, hp, hj, hs⟩ := ptrET
  exact run_eql_iface_ptr_same w a Tryd.underlying47 hp hi hc hj
theorem eql_other (w : World) {a b : Addr} (hne : a ≠ b) (ha : blockIs w a.block) (hb : blockIs w b.block) : (binOp .eql 47 (.iface ET (.pointer (some a))) (.iface ET (.pointer (some b)))).run Tryd.prog w = .ok (.bool false) w := by
  obtain ⟨i, hi, hc⟩ := infoET
  obtain ⟨te, j, hp, hj, hs⟩ := ptrET
  obtain ⟨ca, ta, ha⟩ := ha
  obtain ⟨cb, tb, hb⟩ := hb
  exact run_eql_iface_ptr_other w Tryd.underlying47 hp hi hc hj hs hne ha hb
theorem eql_nil (w : World) (a : Addr) : (binOp .eql 47 (.iface ET (.pointer (some a))) .nilIface).run Tryd.prog w = .ok (.bool false) w := by
  have h : ∀ d : Nat, (Op.equalIn (d + 1) 47 (.iface ET (.pointer (some a))) .nilIface).run Tryd.prog w = .ok false w := fun d => by simp [Op.equalIn, run_underlying Tryd.underlying47]
  simp only [binOp]
  simp [Op.equal, Op.maxDepth, h 9999]
theorem eql_nil_nil (w : World) : (binOp .eql 47 .nilIface .nilIface).run Tryd.prog w = .ok (.bool true) w := by
  have h : ∀ d : Nat, (Op.equalIn (d + 1) 47 .nilIface .nilIface).run Tryd.prog w = .ok true w := fun d => by simp [Op.equalIn, run_underlying Tryd.underlying47]
  simp only [binOp]
  simp [Op.equal, Op.maxDepth, h 9999]

set_option maxHeartbeats 1600000 in
theorem grError (a0 a1 a2 : Addr) (k : Nat) (hk : k ≤ 3) (w : World) (h : Errs w a0 a1 a2) :
    Calls Tryd.prog 16 #[errV a0 a1 a2 k] w fun e w' => e = .returned (.int .i64 (k : Int)) ∧ w = w' := by
  obtain ⟨g0, g1, g2, b0, b1, b2, n01, n02, n12⟩ := h
  have q0 := eql_nil_nil w
  have p0 := eql_nil w a0
  have p1 := eql_nil w a1
  have p2 := eql_nil w a2
  have s0 := eql_same w a0
  have s1 := eql_same w a1
  have s2 := eql_same w a2
  have o10 := eql_other w (Ne.symm n01) b1 b0
  have o20 := eql_other w (Ne.symm n02) b2 b0
  have o21 := eql_other w (Ne.symm n12) b2 b1
  clear n01 n02 n12 b0 b1 b2
  have hk' : k = 0 ∨ k = 1 ∨ k = 2 ∨ k = 3 := by omega
  rcases hk' with rfl | rfl | rfl | rfl
  · simp only [errV]
    go_enter Tryd.func16, Tryd.ntmps16
    go_wp2_with fail
    go_ret
    exact ⟨rfl, rfl⟩
  · simp only [errV]
    go_enter Tryd.func16, Tryd.ntmps16
    go_wp2_with fail
    go_ret
    exact ⟨rfl, rfl⟩
  · simp only [errV]
    go_enter Tryd.func16, Tryd.ntmps16
    go_wp2_with fail
    go_ret
    exact ⟨rfl, rfl⟩
  · simp only [errV]
    go_enter Tryd.func16, Tryd.ntmps16
    go_wp2_with fail
    go_ret
    exact ⟨rfl, rfl⟩
end Go.Proofs.YtpccodjmjgfloaaDoor.gr

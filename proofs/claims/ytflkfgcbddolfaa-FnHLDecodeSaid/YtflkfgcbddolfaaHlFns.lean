/-
  The Hilbert curve's functions: boolToInt, rotate.
-/
import Derived.Test.YtflkfgcbddolfaaHil
import Derived.Test.YtflkfgcbddolfaaBase
import Derived.Test.YtflkfgcbddolfaaHeap
import Derived.RegionTactic
import Derived.ChangeAlike
import Derived.Deep.Light
namespace Go.Proofs.Ytflkfgcbddolfaa.hil
open Go.RowKit Go.Proofs.Ytflkfgcbddolfaa.base Go.Proofs.Ytflkfgcbddolfaa.heap
set_option linter.unusedVariables false

theorem boolToInt (v : Bool) (w : World) : Calls Try.prog 40 #[.bool v] w fun e w' => e = .returned (.int .i32 (if v then 1 else 0)) ∧ w' = w := by
  cases v
  all_goals
    go_enter Try.func40, Try.ntmps40
    go_wp2
    go_ret
    exact ⟨rfl, rfl⟩

/-- two variables -/
structure Pair (px py : Nat) (p : Int × Int) (w : World) : Prop where
  ne : px ≠ py
  one : w.heap[px]? = some (.cells #[.int .i32 p.1] 21 (0, 0))
  two : w.heap[py]? = some (.cells #[.int .i32 p.2] 21 (0, 0))

theorem Pair.put {px py : Nat} {p : Int × Int} {w : World} (h : Pair px py p w) (x : Int) : Pair px py (x, p.2) (w.setCell ⟨px, 0, none⟩ (.int .i32 x)) :=
  ⟨h.ne, by rw [setCell_heap h.one 0 _]; rfl, by rw [Below.heap_setCell _ _ _ _ (Ne.symm h.ne)]; exact h.two⟩
theorem Pair.put' {px py : Nat} {p : Int × Int} {w : World} (h : Pair px py p w) (y : Int) : Pair px py (p.1, y) (w.setCell ⟨py, 0, none⟩ (.int .i32 y)) :=
  ⟨h.ne, by rw [Below.heap_setCell _ _ _ _ h.ne]; exact h.one, by rw [setCell_heap h.two 0 _]; rfl⟩

set_option maxHeartbeats 800000 in
theorem rotate (n rx ry : Int) (p : Int × Int) (px py : Nat) (w : World) (hn : 1 ≤ n) (hn2 : n ≤ 1073741824) (h : Pair px py p w) :
    Calls Try.prog 39 #[.int .i32 n, .int .i32 rx, .int .i32 ry, .pointer (some ⟨px, 0, none⟩), .pointer (some ⟨py, 0, none⟩)] w
      fun e w' => e = .returned (.tuple #[]) ∧ Pair px py (turned n rx ry p) w' ∧ Only (fun j => j = px ∨ j = py) w w' := by
  have H := Lib.hid h
  have c0 : w.cell? ⟨px, 0, none⟩ = some (.int .i32 p.1) := block_cell h.one rfl
  have c1 : w.cell? ⟨py, 0, none⟩ = some (.int .i32 p.2) := block_cell h.two rfl
  have f0 : w.frozen? ⟨px, 0, none⟩ = false := block_free h.one
  have f1 : w.frozen? ⟨py, 0, none⟩ = false := block_free h.two
  have hne := h.ne
  have hne' := Ne.symm h.ne
  clear h
  by_cases h0 : ry = 0
  · subst h0
    by_cases h1 : rx = 1
    · subst h1
      go_enter Try.func39, Try.ntmps39
      go_wp2_with fail
      go_end0
      refine ⟨rfl, ?_, ?_⟩
      · exact (((H.out.put (wrap32 (n - 1 - p.1))).put' (wrap32 (n - 1 - p.2))).put (wrap32 (n - 1 - p.2))).put' (wrap32 (n - 1 - p.1))
      · exact (((((Only.refl (fun j => j = px ∨ j = py) w).setCell _ _ (fun _ => .inl rfl)).setCell _ _ (fun _ => .inr rfl)).setCell _ _ (fun _ => .inl rfl)).setCell _ _ (fun _ => .inr rfl))
    · go_enter Try.func39, Try.ntmps39
      go_wp2_with fail
      go_end0
      refine ⟨rfl, ?_, ?_⟩
      · rw [show turned n rx 0 p = (p.2, p.1) from by unfold turned; rw [if_pos rfl, if_neg h1]]; exact (H.out.put p.2).put' p.1
      · exact (((Only.refl (fun j => j = px ∨ j = py) w).setCell _ _ (fun _ => .inl rfl)).setCell _ _ (fun _ => .inr rfl))
  · go_enter Try.func39, Try.ntmps39
    go_wp2_with fail
    go_end0
    exact ⟨rfl, by unfold turned; rw [if_neg h0]; exact H.out, Only.refl _ w⟩
end Go.Proofs.Ytflkfgcbddolfaa.hil

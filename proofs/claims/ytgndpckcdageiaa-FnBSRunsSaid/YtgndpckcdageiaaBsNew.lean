/-
  Bitsets: New (with its deferred recover, which finds nothing).
-/
import Derived.Test.YtgndpckcdageiaaBsCore
import Derived.Defers
import Derived.Recover
namespace Go.Proofs.Ytgndpckcdageiaa.bs
open Go.RowKit Go.Proofs.Ytgndpckcdageiaa.base Go.Proofs.Ytgndpckcdageiaa.heap Go.Proofs.Ytgndpckcdageiaa.bit
set_option linter.unusedVariables false

/-- the cells of a new row of words -/
def zs (k : Nat) : Array Value := madeCells #[.int .u64 0] k
theorem zs_list (k : Nat) : (zs k).toList = U (List.replicate k 0) := by
  unfold zs U madeCells
  apply List.ext_getElem?
  intro i
  simp only [Array.toList_map, Array.toList_range, List.getElem?_map, List.map_replicate, List.getElem?_replicate]
  by_cases h : i < k
  · rw [List.getElem?_range h]; simp [h, Nat.mod_one]
  · rw [List.getElem?_eq_none (by simpa using Nat.le_of_not_lt h)]; simp [h]
theorem zs_size (k : Nat) : (zs k).size = k := by simp [zs, madeCells]

theorem make_words (k : Nat) (hk : k ≤ 1099511627776) (w : World) : (Instr.makeSlice 56 (.int .i64 (k : Int)) (.int .i64 (k : Int))).run Try.prog w =
    .ok (.slice (some ⟨w.heap.size, 0, none⟩) k k) (w.alloc (.cells (zs k) 60)) := by
  obtain ⟨ht, i, z, hi, hz, hsize, hby, hzs⟩ := slWord
  have hz' : i.zero = some (.int .u64 0) := by
    have h : (Try.prog.info? 60).map (fun i => (i.zero, i.size, i.bytes)) = some (some (.int .u64 0), 1, 8) := by kernel_rfl
    rw [hi] at h
    simpa using (by simpa using h : i.zero = some (.int .u64 0) ∧ _).1
  have h := run_make (P := Try.prog) w 56 60 i (.int .u64 0) ht hi hz' .i64 .i64 (k : Int) (k : Int) (by omega) (Int.le_refl _) (by rw [hby]; omega) (by omega)
  rw [hsize, Int.toNat_natCast, Nat.mul_one] at h
  exact h

theorem new_idle (p : Addr) (w : World) :
    CallsD Try.prog 46 #[.pointer (some p)] .returning w fun e u' w' => e = .returned (.tuple #[]) ∧ u' = .returning ∧ w' = w := by
  refine callsD_of_wpS Try.func46 rfl fun c₀ cs hu => ?_
  apply wpS_seq
  apply wpS_region
  simp [wpOpsS, go_sem, recoverD, hu, Try.ntmps46, Exit.thenS]
  apply wpS_seq
  apply wpS_region
  simp [wpOpsS, go_sem, Exit.thenS]
  refine wpS_cond (t := false) (by simp [Act.eval, Array.replicate]) ?_
  simp only [Bool.false_eq_true, if_false]
  refine wpS_of_wp (wp_skip ?_)
  cases c₀
  simp_all [bodyPostS, results, Try.results46]

set_option maxHeartbeats 800000 in
theorem new_raw (n : Nat) (w : World) (hn : n < 4611686018427387904) (hk : (n + 63) / 64 ≤ 1099511627776) :
    Calls Try.prog 37 #[.int .u64 (n : Int)] w fun e w' => e = .returned (.pointer (some ⟨w.heap.size + 2, 0, none⟩)) ∧
      w' = ((w.alloc (.cells #[.pointer (some ⟨w.heap.size + 2, 0, none⟩)] 45)).alloc (.cells (zs ((n + 63) / 64)) 60)).alloc (.cells #[.int .u64 (n : Int), .slice (some ⟨w.heap.size + 1, 0, none⟩) ((n + 63) / 64) ((n + 63) / 64)] 58) := by
  have hmf : ∀ (fn : Fn) (first cap : Array Value) (w : World), (Instr.makeFunc fn first cap).run Try.prog w = .ok (.func fn first cap) w := fun _ _ _ _ => rfl
  have hW := fun w => wordsNeeded n hn w
  have hmk := fun w => make_words ((n + 63) / 64) hk w
  generalize (n + 63) / 64 = k at *
  have HW := Lib.hid hW
  clear hW
  go_enter_defers Try.func37, Try.ntmps37
  go_wp2_with (go_at_call 42; refine (HW.out _).mono ?_; rintro e w' ⟨rfl, rfl⟩)
  refine leaves_cons (f := 46) (args := #[.pointer (some ⟨w.heap.size, 0, none⟩)]) (by simp) (by simp [go_sem]) ?_
  refine (new_idle ⟨w.heap.size, 0, none⟩ _).mono ?_
  rintro e u' w'' ⟨rfl, rfl, rfl⟩
  simp [Leaves, settle, results, Try.results37, go_sem]
end Go.Proofs.Ytgndpckcdageiaa.bs

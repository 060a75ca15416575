/-
  The thin package: a bitset is made of Bits (set64).
-/
import Derived.Test.YtpiajkabikbdnaaBsSet
import Derived.Test.YtpiajkabikbdnaaBsNew
namespace Go.Proofs.Ytpiajkabikbdnaa.bs
open Go.RowKit Go.Proofs.Ytpiajkabikbdnaa.base Go.Proofs.Ytpiajkabikbdnaa.heap Go.Proofs.Ytpiajkabikbdnaa.bit
set_option linter.unusedVariables false

theorem replicate_get (n i : Nat) : (List.replicate n false).getD i false = false := by
  simp only [List.getD_eq_getElem?_getD, List.getElem?_replicate]
  split <;> rfl

/-- New: a bitset without a bit set, of just as many words as are needed -/
theorem new (n : Nat) (w : World) (hn : n ≤ 1048576) :
    Calls Try.prog 58 #[.int .u64 (n : Int)] w fun e w' => ∃ o : O, e = .returned o.ptr ∧ o.ok w' ∧ o.n = n ∧ o.m = (n + 63) / 64 ∧ o.ws = List.replicate ((n + 63) / 64) 0 ∧ o.cap = o.m ∧
      Only (fun _ => False) w w' ∧ ∀ k, o.foot k → w.heap.size ≤ k := by
  refine (new_raw n w (by omega) (by omega)).mono ?_
  rintro e w' ⟨rfl, rfl⟩
  refine ⟨⟨w.heap.size + 2, n, some ⟨w.heap.size + 1, 0, none⟩, (n + 63) / 64, (n + 63) / 64, List.replicate ((n + 63) / 64) 0⟩, rfl, ⟨?_, ?_, by simp, Ok.zeros _, fun h => ?_, by simp⟩, rfl, rfl, rfl, rfl,
    (((Only.refl _ w).alloc _).alloc _).alloc _, ?_⟩
  · exact heap_alloc_new' _ _ _ (by simp)
  · have h := Own.made 59 1 (w.alloc (.cells #[.pointer (some ⟨w.heap.size + 2, 0, none⟩)] 74)) (zs ((n + 63) / 64)) ((n + 63) / 64) ((n + 63) / 64) (Nat.le_refl _) (by unfold maxLen; omega) (by rw [zs_size]; omega)
      (by rw [zs_list]; exact fun u hu => U_one _ u (List.mem_of_mem_take hu))
    rw [zs_list, U_take] at h
    have e1 : (List.replicate ((n + 63) / 64) 0).take ((n + 63) / 64 * 1) = List.replicate ((n + 63) / 64) 0 := List.take_of_length_le (by simp)
    rw [e1] at h
    refine Own.keep (S := fun _ => False) ?_ ((Only.refl _ _).alloc _) (fun _ _ => id)
    have e2 : (w.alloc (.cells #[.pointer (some ⟨w.heap.size + 2, 0, none⟩)] 74)).heap.size = w.heap.size + 1 := by simp
    rw [e2] at h
    exact h
  · have : w.heap.size + 1 = w.heap.size + 2 := h
    omega
  · rintro k (rfl | hk)
    · show w.heap.size ≤ w.heap.size + 2; omega
    · have : w.heap.size + 1 = k := hk
      omega

end Go.Proofs.Ytpiajkabikbdnaa.bs

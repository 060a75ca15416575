/-
  SetRange, FlipRange of the thin package; BSPut of the reference, whatever the places.
-/
import Derived.Test.YtgndpckcdageiaaBsFlip
import Derived.Test.YtgndpckcdageiaaBsSet64
import Derived.Test.YtgndpckcdageiaaBsLaw
namespace Go.Proofs.Ytgndpckcdageiaa.bs
open Go.RowKit Go.Proofs.Ytgndpckcdageiaa.base Go.Proofs.Ytgndpckcdageiaa.heap Go.Proofs.Ytgndpckcdageiaa.bit
set_option linter.unusedVariables false

/-- the bits behind a change of a range -/
def rangeL (b : List Bool) (f t how : Nat) : List Bool := if f < t then putL (grow b t) f t how else b
theorem rangeL_len (b : List Bool) (f t how : Nat) : (rangeL b f t how).length ≤ max b.length t := by
  unfold rangeL
  split
  · rw [putL_len, grow_len]; omega
  · omega

theorem setRange_no (o : O) (f t : Nat) (w : World) (hft : t ≤ f) :
    Calls Try.prog 21 #[o.ptr, .int .u64 (f : Int), .int .u64 (t : Int)] w fun e w' => e = .returned o.ptr ∧ w' = w := by
  have hft' : (t : Int) ≤ (f : Int) := by omega
  unfold O.ptr
  go_enter Try.func21, Try.ntmps21
  go_wp2
  go_ret
  exact ⟨rfl, rfl⟩
theorem flipRange_no (o : O) (f t : Nat) (w : World) (hft : t ≤ f) :
    Calls Try.prog 22 #[o.ptr, .int .u64 (f : Int), .int .u64 (t : Int)] w fun e w' => e = .returned o.ptr ∧ w' = w := by
  have hft' : (t : Int) ≤ (f : Int) := by omega
  unfold O.ptr
  go_enter Try.func22, Try.ntmps22
  go_wp2
  go_ret
  exact ⟨rfl, rfl⟩
theorem upd_same {o : O} {b : List Bool} {w w' : World} (h : o.ok w) (hr : o.rep b) (hw : w' = w) : Upd o b w w' := by
  subst hw
  exact ⟨o, rfl, h, hr, Only.refl _ _, fun k hk => .inl hk⟩
theorem setRange (o : O) (b : List Bool) (f t : Nat) (w : World) (h : o.ok w) (hr : o.rep b) (hbn : b.length ≤ 1048576) (ht2 : t ≤ 1048576) :
    Calls Try.prog 21 #[o.ptr, .int .u64 (f : Int), .int .u64 (t : Int)] w fun e w' => e = .returned o.ptr ∧ Upd o (rangeL b f t 1) w w' := by
  unfold rangeL
  by_cases hft : f < t
  · rw [if_pos hft]; exact setRange_yes o b f t w h hr hft hbn ht2
  · rw [if_neg hft]; exact (setRange_no o f t w (by omega)).mono fun e w' ⟨he, hw⟩ => ⟨he, upd_same h hr hw⟩
theorem flipRange (o : O) (b : List Bool) (f t : Nat) (w : World) (h : o.ok w) (hr : o.rep b) (hbn : b.length ≤ 1048576) (ht2 : t ≤ 1048576) :
    Calls Try.prog 22 #[o.ptr, .int .u64 (f : Int), .int .u64 (t : Int)] w fun e w' => e = .returned o.ptr ∧ Upd o (rangeL b f t 2) w w' := by
  unfold rangeL
  by_cases hft : f < t
  · rw [if_pos hft]; exact flipRange_yes o b f t w h hr hft hbn ht2
  · rw [if_neg hft]; exact (flipRange_no o f t w (by omega)).mono fun e w' ⟨he, hw⟩ => ⟨he, upd_same h hr hw⟩

set_option maxHeartbeats 800000 in
theorem bsPut_no (a0 : Option Addr) (cap0 : Nat) (b : List Bool) (f t : Nat) (how : Int) (w : World) (hrb : RB w a0 b.length cap0 b) (hn : b.length ≤ 1048576) (hft : t ≤ f) :
    Calls Try.prog 12 #[.slice a0 b.length cap0, .int .i64 (f : Int), .int .i64 (t : Int), .int .i64 how] w (RetBools b w) := by
  have hft' : (t : Int) ≤ (f : Int) := by omega
  have HRB := Lib.hid hrb
  clear hrb
  go_enter Try.func12, Try.ntmps12
  go_wp2_with (at_builtin; refine wpList_append b.length (B b) rfl _ _ _ _ rfl slBool rfl (own_empty _ (default : World) _ _ (heap_alloc_new' _ _ _ rfl)) rfl (Rd.src ((HRB.out.keep (S := fun _ => False) (by repeat (first | exact Only.refl _ _ | apply Only.alloc)) (fun _ _ => id)).1) Try.underlying29) (Nat.zero_add _) rfl (by unfold maxLen; omega) (by omega) ?_)
  intro a1 cap1 w1 hG
  have HO1 : Hid (Only (fun _ => False) w w1) := Lib.hid (((Only.refl _ w).alloc _).trans hG.only (fun j hj h => by have : w.heap.size = j := h; omega))
  have HF1 : Hid (∀ j, At a1 j → w.heap.size ≤ j) := Lib.hid (fun j hj => by
    rcases hG.fresh j hj with h | h
    · have : w.heap.size = j := h; omega
    · simp at h; omega)
  have HOW1 := Lib.hid hG.own
  clear hG
  go_wp2_with fail
  go_ret
  exact ⟨a1, cap1, rfl, ⟨HOW1.out.rd, rfl⟩, HO1.out, HF1.out⟩

theorem bsPutR1 (a0 : Option Addr) (cap0 : Nat) (b : List Bool) (f t : Nat) (w : World) (hrb : RB w a0 b.length cap0 b) (hn : b.length ≤ 1048576) (ht : t ≤ 1048576) (hf : f ≤ 1048576) :
    Calls Try.prog 12 #[.slice a0 b.length cap0, .int .i64 (f : Int), .int .i64 (t : Int), .int .i64 1] w (RetBools (rangeL b f t 1) w) := by
  unfold rangeL
  by_cases hft : f < t
  · rw [if_pos hft]; exact bsPut1 a0 cap0 b f t w hrb hn ht hf hft
  · rw [if_neg hft]; exact bsPut_no a0 cap0 b f t 1 w hrb hn (by omega)
theorem bsPutR2 (a0 : Option Addr) (cap0 : Nat) (b : List Bool) (f t : Nat) (w : World) (hrb : RB w a0 b.length cap0 b) (hn : b.length ≤ 1048576) (ht : t ≤ 1048576) (hf : f ≤ 1048576) :
    Calls Try.prog 12 #[.slice a0 b.length cap0, .int .i64 (f : Int), .int .i64 (t : Int), .int .i64 2] w (RetBools (rangeL b f t 2) w) := by
  unfold rangeL
  by_cases hft : f < t
  · rw [if_pos hft]; exact bsPut2 a0 cap0 b f t w hrb hn ht hf hft
  · rw [if_neg hft]; exact bsPut_no a0 cap0 b f t 2 w hrb hn (by omega)

end Go.Proofs.Ytgndpckcdageiaa.bs

/-
  Bitsets: Clone, sortByLength, Union, Intersection.
-/
import Derived.Test.YtgndpckcdageiaaBsFlip
import Derived.Test.YtgndpckcdageiaaBsCount
import Derived.Test.YtgndpckcdageiaaBsOps2
import Derived.Test.YtgndpckcdageiaaBsLaw
import Derived.Test.YtgndpckcdageiaaBsImplEq
namespace Go.Proofs.Ytgndpckcdageiaa.bs
open Go.RowKit Go.Proofs.Ytgndpckcdageiaa.base Go.Proofs.Ytgndpckcdageiaa.heap Go.Proofs.Ytgndpckcdageiaa.bit
set_option linter.unusedVariables false

/-- the words that a length asks for, no more -/
def O.tight (o : O) (b : List Bool) : Prop := o.m = (b.length + 63) / 64

set_option maxRecDepth 100000 in
set_option maxHeartbeats 1600000 in
theorem clone (o : O) (b : List Bool) (w : World) (h : o.ok w) (hr : o.rep b) (ht : o.tight b) (hn : b.length ≤ 1048000) :
    Calls Try.prog 31 #[o.ptr] w (FObj w b) := by
  obtain ⟨bb, hbb, hp, hb, hne, c0, c1, f0, f1, hc, hf, hmc, hcap⟩ := h.facts
  have hcmp : ∀ wx, (binOp .neq 56 (.slice (some ⟨bb, 0, none⟩) o.m o.cap) (.slice none 0 0)).run Try.prog wx = .ok (.bool true) wx := fun wx => run_neq_slice_nil_any _ _ _ _ _ _ _ _ Try.underlying56
  obtain ⟨k, hk⟩ : ∃ k, (b.length + 63) / 64 = k := ⟨_, rfl⟩
  have hNEW := Lib.hid (new_raw b.length w (by omega) (by omega))
  rw [hk] at hNEW
  have hmk : o.m = k := by rw [← hk]; exact ht
  have hrd := h.own.rd
  rw [hbb] at hrd
  have H := Lib.hid h
  have HR := Lib.hid hr
  have HK := Lib.hid hk
  have HBB := Lib.hid hbb
  rw [hr.len] at c0
  rw [hmk] at c1 hcmp hrd
  have hk2 : k ≤ 20000 := by omega
  have HMK := Lib.hid hmk
  clear hc hf h hr hk ht hbb hmk
  unfold O.ptr
  go_enter Try.func31, Try.ntmps31
  go_wp2_with fail
  refine hNEW.out.mono ?_
  rintro e w1 ⟨rfl, hw1⟩
  have hO1 : Same w w1 := by rw [hw1]; exact (((Only.refl _ w).alloc _).alloc _).alloc _
  have hz1 : w1.heap.size = w.heap.size + 3 := by rw [hw1]; simp
  have hq : w1.heap[w.heap.size + 1]? = some (.cells (zs k) 60 (0, 0)) := by
    rw [hw1, Below.heap_alloc _ _ _ (by simp)]
    exact heap_alloc_new' _ _ _ (by simp)
  have hs : w1.heap[w.heap.size + 2]? = some (.cells #[.int .u64 (b.length : Int), .slice (some ⟨w.heap.size + 1, 0, none⟩) k k] 58 (0, 0)) := by
    rw [hw1]; exact heap_alloc_new' _ _ _ (by simp)
  obtain ⟨c0', c1', f0', f1'⟩ := (H.out.keep hO1 (fun _ _ => id)).cells
  rw [HBB.out, HMK.out] at c1'
  have s1 : w1.cell? ⟨w.heap.size + 2, 1, none⟩ = some (.slice (some ⟨w.heap.size + 1, 0, none⟩) k k) := block_cell hs rfl
  have HRd := Lib.hid (hrd.keep hO1 (fun _ _ => id))
  have HQ := Lib.hid hq
  have HS := Lib.hid hs
  have HO1 := Lib.hid hO1
  have HZ1 := Lib.hid hz1
  clear hw1 hq hs hO1 hrd c0 c1 hz1
  go_wp2_with fail
  refine wp_region_still_tail 8 (by kernel_rfl) (by kernel_rfl) ?_
  simp only [List.take_succ_cons, List.take_zero, List.drop_succ_cons, List.drop_zero]
  repeat still_step
  refine wpStill_nil ?_
  go_wp2_with (refine wpList_copy k rfl _ _ _ _ rfl slWord rfl HQ.out rfl HRd.out.drew (by omega) (by rw [zs_size]; omega) ?_)
  intro w2 hb2 hO2
  have HF : Hid (FObj w b (.returned (.pointer (some ⟨w.heap.size + 2, 0, none⟩))) w2) := Lib.hid (by
    have hl := H.out.len
    have e1 : (U o.ws).take k = U o.ws := List.take_of_length_le (by rw [U_len, hl, HMK.out]; omega)
    have e2 : (zs k).toList.drop k = [] := List.drop_of_length_le (by rw [zs_list, U_len, List.length_replicate]; omega)
    have hb3 : w2.heap[w.heap.size + 1]? = some (.cells (U o.ws).toArray 60 (0, 0)) := by
      simpa [e1, e2] using hb2
    have hO3 : Only (fun j => j = w.heap.size + 1) w1 w2 := hO2.undrew
    have hs2 := hO3.obj HS.out (by omega)
    refine ⟨⟨w.heap.size + 2, b.length, some ⟨w.heap.size + 1, 0, none⟩, k, k, o.ws⟩, rfl, ⟨hs2, ?_, by rw [hl]; exact HMK.out, H.out.fits, fun e => by simp [At] at e, by simp⟩, ⟨rfl, HK.out.symm, HR.out.bits⟩, HK.out.symm, Only.trans HO1.out hO3 (fun j hj e => by omega), fun j hj => ?_⟩
    · have h2 := Own.of_block (size := 1) hb3 k k (Nat.le_refl _) (by unfold maxLen; omega) (by simp [U_len, hl, HMK.out]) (fun u hu => U_one _ u (List.mem_of_mem_take hu))
      have e3 : (U o.ws).toArray.toList.take (k * 1) = U o.ws := by rw [Nat.mul_one]; exact e1
      rw [e3] at h2
      exact h2
    · rcases hj with rfl | hj
      · show w.heap.size ≤ w.heap.size + 2; omega
      · have : w.heap.size + 1 = j := hj; omega)
  clear hb2 hO2
  go_wp2_with fail
  go_ret
  exact HF.out

theorem notNil2 (p : Nat) (w : World) : Calls Try.prog 43 #[.pointer (some ⟨p, 0, none⟩)] w fun e w' => e = .returned (.tuple #[]) ∧ w = w' := (notNil p w).mono fun e w' ⟨h, hw⟩ => ⟨h, hw.symm⟩

/-- word by word: the first k words have been worked on -/
def Worked (f : Bool → Bool → Bool) (sw lw ws : List Nat) (k : Nat) : Prop := ∀ j, bit ws j = if j < 64 * k then f (bit sw j) (bit lw j) else bit lw j
theorem Worked.step {f : Bool → Bool → Bool} {sw lw ws : List Nat} {k X : Nat} (h : Worked f sw lw ws k) (hk : k < ws.length) (hX : ∀ c, c < 64 → X.testBit c = f ((sw.getD k 0).testBit c) ((lw.getD k 0).testBit c)) : Worked f sw lw (ws.set k X) (k + 1) := by
  intro j
  rw [bit_set _ _ _ _ hk]
  by_cases hj : j / 64 = k
  · rw [if_pos hj, hX _ (Nat.mod_lt _ (by omega)), if_pos (by omega)]
    unfold bit
    rw [hj]
  · rw [if_neg hj, h j]
    by_cases c : j < 64 * k
    · rw [if_pos c, if_pos (by omega)]
    · rw [if_neg c, if_neg (by omega)]

/-- a fresh bitset, worked on to the end -/
theorem Worked.rep {f : Bool → Bool → Bool} {sw lw ws : List Nat} {k n : Nat} {bs bl : List Bool} {o : O} (h : Worked f sw lw ws k) (hf0 : f false false = false) (hfl : ∀ x, ¬ f false x = x → False) (h1 : ∀ j, bit sw j = bs.getD j false) (h2 : ∀ j, bit lw j = bl.getD j false)
    (hk : bs.length ≤ 64 * k) (hn : bs.length ≤ n ∧ bl.length ≤ n) (hon : o.n = n) (hom : o.m = (n + 63) / 64) : (o.having ws).rep (twoL f bs bl n) := by
  refine ⟨by rw [twoL_len]; exact hon, by rw [twoL_len]; exact hom, fun j => ?_⟩
  show bit ws j = _
  rw [twoL_far f hf0 _ _ _ _ hn, h j, h1, h2]
  by_cases c : j < 64 * k
  · rw [if_pos c]
  · rw [if_neg c]
    have : bs.getD j false = false := by simp [show bs.length ≤ j by omega]
    rw [this]
    exact (Classical.byContradiction (fun e => hfl _ (fun e' => e e'.symm)))
/-- a fresh bitset with other words -/
theorem fresh_fin {o : O} {b0 d : List Bool} {ws : List Nat} {w w1 wr : World} (hok : (o.having ws).ok wr) (hrep : (o.having ws).rep d) (hm : o.m = (d.length + 63) / 64) (hO1 : Same w w1) (hO : Only o.foot w1 wr) (hf : ∀ k, o.foot k → w.heap.size ≤ k) : FObj w d (.returned o.ptr) wr :=
  ⟨o.having ws, rfl, hok, hrep, hm, Only.trans hO1 hO (fun k hk hh => absurd (hf k hh) (by omega)), hf⟩

end Go.Proofs.Ytgndpckcdageiaa.bs

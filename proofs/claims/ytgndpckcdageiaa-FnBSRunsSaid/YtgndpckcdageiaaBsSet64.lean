/-
  The thin package: a bitset is made of Bits (set64).
-/
import Derived.Test.YtgndpckcdageiaaBsSet
import Derived.Test.YtgndpckcdageiaaBsNew
namespace Go.Proofs.Ytgndpckcdageiaa.bs
open Go.RowKit Go.Proofs.Ytgndpckcdageiaa.base Go.Proofs.Ytgndpckcdageiaa.heap Go.Proofs.Ytgndpckcdageiaa.bit
set_option linter.unusedVariables false

theorem replicate_get (n i : Nat) : (List.replicate n false).getD i false = false := by
  simp only [List.getD_eq_getElem?_getD, List.getElem?_replicate]
  split <;> rfl

/-- New: a bitset without a bit set, of just as many words as are needed -/
theorem new (n : Nat) (w : World) (hn : n ≤ 1048576) :
    Calls Try.prog 37 #[.int .u64 (n : Int)] w fun e w' => ∃ o : O, e = .returned o.ptr ∧ o.ok w' ∧ o.n = n ∧ o.m = (n + 63) / 64 ∧ o.ws = List.replicate ((n + 63) / 64) 0 ∧ o.cap = o.m ∧
      Only (fun _ => False) w w' ∧ ∀ k, o.foot k → w.heap.size ≤ k := by
  refine (new_raw n w (by omega) (by omega)).mono ?_
  rintro e w' ⟨rfl, rfl⟩
  refine ⟨⟨w.heap.size + 2, n, some ⟨w.heap.size + 1, 0, none⟩, (n + 63) / 64, (n + 63) / 64, List.replicate ((n + 63) / 64) 0⟩, rfl, ⟨?_, ?_, by simp, Ok.zeros _, fun h => ?_, by simp⟩, rfl, rfl, rfl, rfl,
    (((Only.refl _ w).alloc _).alloc _).alloc _, ?_⟩
  · exact heap_alloc_new' _ _ _ (by simp)
  · have h := Own.made 60 1 (w.alloc (.cells #[.pointer (some ⟨w.heap.size + 2, 0, none⟩)] 45)) (zs ((n + 63) / 64)) ((n + 63) / 64) ((n + 63) / 64) (Nat.le_refl _) (by unfold maxLen; omega) (by rw [zs_size]; omega)
      (by rw [zs_list]; exact fun u hu => U_one _ u (List.mem_of_mem_take hu))
    rw [zs_list, U_take] at h
    have e1 : (List.replicate ((n + 63) / 64) 0).take ((n + 63) / 64 * 1) = List.replicate ((n + 63) / 64) 0 := List.take_of_length_le (by simp)
    rw [e1] at h
    refine Own.keep (S := fun _ => False) ?_ ((Only.refl _ _).alloc _) (fun _ _ => id)
    have e2 : (w.alloc (.cells #[.pointer (some ⟨w.heap.size + 2, 0, none⟩)] 45)).heap.size = w.heap.size + 1 := by simp
    rw [e2] at h
    exact h
  · have : w.heap.size + 1 = w.heap.size + 2 := h
    omega
  · rintro k (rfl | hk)
    · show w.heap.size ≤ w.heap.size + 2; omega
    · have : w.heap.size + 1 = k := hk
      omega

set_option maxHeartbeats 1600000 in
theorem set64_raw (n : Nat) (a : Option Addr) (m cap : Nat) (l : List Nat) (w : World) (h : RU w a m cap l) (hl : ∀ i ∈ l, i < n) (hn : n ≤ 1048576) (hm : m ≤ 1048576) :
    Calls Try.prog 16 #[.agg #[.int .u64 (n : Int), .slice a m cap]] w fun e w' => ∃ o : O, e = .returned o.ptr ∧ o.ok w' ∧ o.n = n ∧ o.m = (n + 63) / 64 ∧ (∀ i, bit o.ws i = decide (i ∈ l)) ∧
      Only (fun _ => False) w w' ∧ ∀ k, o.foot k → w.heap.size ≤ k := by
  have hbd := h.1.bound
  go_enter Try.func16, Try.ntmps16
  go_wp2_with fail
  refine (new n _ hn).mono ?_
  rintro e w1 ⟨o, rfl, hok, hon, hom, hows, hocap, hO, hfo⟩
  have hbox : w1.cell? ⟨w.heap.size, 1, none⟩ = some (.slice a m cap) := by
    rw [hO.cell (p := ⟨w.heap.size, 1, none⟩) (by simp) id]; simp [go_sem]
  go_wp2_with fail
  have hO0 : Only (fun _ => False) w w1 := ((Only.refl _ w).alloc _).trans hO (fun _ _ f => f)
  have hf0 : ∀ k, o.foot k → w.heap.size ≤ k := fun k hk => by
    have := hfo k hk
    simp at this
    omega
  have hlen := h.2
  have H := Lib.hid h
  have HL := Lib.hid hl
  have HON := Lib.hid hon
  have HOM := Lib.hid hom
  have HLEN := Lib.hid hlen
  have HF := Lib.hid hf0
  have HB0 : Hid (∀ j, bit o.ws j = decide (j ∈ l.take 0)) := Lib.hid (fun j => by rw [hows, bit_zeros]; simp)
  have HOK := Lib.hid hok
  clear h hl hon hom hlen hf0 hfo hows hok hocap hbox hO
  go_loopw [12] (fun i wr => ∃ (k : Nat) (ws' : List Nat), k ≤ m ∧ i = .int .i64 (k : Int) ∧ ({ o with ws := ws' } : O).ok wr ∧ (∀ j, bit ws' j = decide (j ∈ l.take k)) ∧ Only (fun _ => False) w wr)
    (fun i _ => m - (intOf i).toNat)
  case atStart => exact ⟨0, o.ws, Nat.zero_le _, rfl, HOK.out, HB0.out, hO0⟩
  case round =>
    obtain ⟨k, ws', hk, rfl, hok, hbits, hO⟩ := hrel
    have HOK := Lib.hid hok
    have HBI := Lib.hid hbits
    have HO := Lib.hid hO
    clear hok hbits hO
    by_cases hlt : k < m
    · obtain ⟨b, off, rfl, hb, hc⟩ := RU.at (H.out.keep HO.out (fun _ _ => id)) (by omega)
      have hck := hc k hlt
      have hlt' : (k : Int) < (m : Int) := by omega
      have hmem : l.getD k 0 ∈ l := by
        have hkl : k < l.length := by rw [HLEN.out]; exact hlt
        rw [show l.getD k 0 = l[k] from by simp [hkl]]; exact List.getElem_mem hkl
      have hin : l.getD k 0 < n := HL.out _ hmem
      have HT : Hid (l.take (k + 1) = l.take k ++ [l.getD k 0]) := Lib.hid (by
        have hkl : k < l.length := by rw [HLEN.out]; exact hlt
        rw [List.take_add_one, List.getElem?_eq_getElem hkl]; simp [hkl])
      clear hc hmem
      generalize l.getD k 0 = x at *
      go_wp2_with fail
      refine (set_in { o with ws := ws' } x _ HOK.out (by rw [HON.out]; exact hin) (by rw [HOM.out]; omega) (by omega)).mono ?_
      rintro e w2 ⟨rfl, hok2, hO2⟩
      have HN : Hid (∀ j, bit (ws'.set (x / 64) (ws'.getD (x / 64) 0 ||| 2 ^ (x % 64))) j = decide (j ∈ l.take (k + 1))) := Lib.hid (fun j => by
        rw [bit_or _ _ _ (by rw [HOK.out.len, HOM.out]; omega), HBI.out, HT.out]
        simp [Bool.decide_or])
      have HO2 : Hid (Only (fun _ => False) w w2) := Lib.hid (HO.out.trans hO2 (fun j hj hf => by have := HF.out j hf; omega))
      have HOK2 := Lib.hid hok2
      clear hok2 hO2
      go_wp2_with fail
      go_roundw
      case rel => exact ⟨k + 1, _, by omega, by go_num, HOK2.out, HN.out, HO2.out⟩
      case measure => simp [intOf]; omega
    · obtain rfl : k = m := by omega
      go_wp2_with fail
      go_ret
      refine ⟨{ o with ws := ws' }, rfl, HOK.out, HON.out, HOM.out, fun j => ?_, HO.out, HF.out⟩
      have := HBI.out j
      rwa [List.take_of_length_le (by rw [HLEN.out]; exact Nat.le_refl _)] at this

/-- Bits become a bitset with these bits -/
theorem set64 (v : Value) (b : List Bool) (w : World) (h : BV w v b) (hn : b.length ≤ 1048576) :
    Calls Try.prog 16 #[v] w fun e w' => ∃ o : O, e = .returned o.ptr ∧ o.ok w' ∧ o.rep b ∧ o.m = (b.length + 63) / 64 ∧ Only (fun _ => False) w w' ∧ ∀ k, o.foot k → w.heap.size ≤ k := by
  obtain ⟨a, m, cap, rfl, hr⟩ := h
  have hm : m ≤ 1048576 := by have := ones_le b; rw [hr.2] at this; omega
  refine (set64_raw b.length a m cap (ones b) w hr (fun i hi => ones_lt hi) hn hm).mono ?_
  rintro e w' ⟨o, rfl, hok, hon, hom, hb, hO, hf⟩
  refine ⟨o, rfl, hok, ⟨hon, by omega, fun i => ?_⟩, hom, hO, hf⟩
  rw [hb i]
  by_cases h : i ∈ ones b
  · rw [decide_eq_true h]; exact (mem_ones.1 h).2.symm
  · rw [decide_eq_false h]
    by_cases hi : i < b.length
    · cases hg : b.getD i false
      · rfl
      · exact absurd (mem_ones.2 ⟨hi, hg⟩) h
    · simp [Nat.le_of_not_lt hi]
end Go.Proofs.Ytgndpckcdageiaa.bs

/-
  SetRange, FlipRange of the thin package; BSPut of the reference, whatever the places.
-/
import Derived.Test.YthnfoiaemeklnaaBsFlip
import Derived.Test.YthnfoiaemeklnaaBsSet64
import Derived.Test.YthnfoiaemeklnaaBsLaw
namespace Go.Proofs.Ythnfoiaemeklnaa.bs
open Go.RowKit Go.Proofs.Ythnfoiaemeklnaa.base Go.Proofs.Ythnfoiaemeklnaa.heap Go.Proofs.Ythnfoiaemeklnaa.bit
set_option linter.unusedVariables false

/-- the bits behind a change of a range -/
def rangeL (b : List Bool) (f t how : Nat) : List Bool := if f < t then putL (grow b t) f t how else b
theorem rangeL_len (b : List Bool) (f t how : Nat) : (rangeL b f t how).length ≤ max b.length t := by
  unfold rangeL
  split
  · rw [putL_len, grow_len]; omega
  · omega

theorem setRange_no (o : O) (f t : Nat) (w : World) (hft : t ≤ f) :
    Calls Try.prog 57 #[o.ptr, .int .u64 (f : Int), .int .u64 (t : Int)] w fun e w' => e = .returned o.ptr ∧ w' = w := by
  have hft' : (t : Int) ≤ (f : Int) := by omega
  unfold O.ptr
  go_enter Try.func57, Try.ntmps57
  go_wp2
  go_ret
  exact ⟨rfl, rfl⟩
theorem flipRange_no (o : O) (f t : Nat) (w : World) (hft : t ≤ f) :
    Calls Try.prog 59 #[o.ptr, .int .u64 (f : Int), .int .u64 (t : Int)] w fun e w' => e = .returned o.ptr ∧ w' = w := by
  have hft' : (t : Int) ≤ (f : Int) := by omega
  unfold O.ptr
  go_enter Try.func59, Try.ntmps59
  go_wp2
  go_ret
  exact ⟨rfl, rfl⟩
theorem upd_same {o : O} {b : List Bool} {w w' : World} (h : o.ok w) (hr : o.rep b) (hw : w' = w) : Upd o b w w' := by
  subst hw
  exact ⟨o, rfl, h, hr, Only.refl _ _, fun k hk => .inl hk⟩
theorem setRange (o : O) (b : List Bool) (f t : Nat) (w : World) (h : o.ok w) (hr : o.rep b) (hbn : b.length ≤ 1048576) (ht2 : t ≤ 1048576) :
    Calls Try.prog 57 #[o.ptr, .int .u64 (f : Int), .int .u64 (t : Int)] w fun e w' => e = .returned o.ptr ∧ Upd o (rangeL b f t 1) w w' := by
  unfold rangeL
  by_cases hft : f < t
  · rw [if_pos hft]; exact setRange_yes o b f t w h hr hft hbn ht2
  · rw [if_neg hft]; exact (setRange_no o f t w (by omega)).mono fun e w' ⟨he, hw⟩ => ⟨he, upd_same h hr hw⟩
theorem flipRange (o : O) (b : List Bool) (f t : Nat) (w : World) (h : o.ok w) (hr : o.rep b) (hbn : b.length ≤ 1048576) (ht2 : t ≤ 1048576) :
    Calls Try.prog 59 #[o.ptr, .int .u64 (f : Int), .int .u64 (t : Int)] w fun e w' => e = .returned o.ptr ∧ Upd o (rangeL b f t 2) w w' := by
  unfold rangeL
  by_cases hft : f < t
  · rw [if_pos hft]; exact flipRange_yes o b f t w h hr hft hbn ht2
  · rw [if_neg hft]; exact (flipRange_no o f t w (by omega)).mono fun e w' ⟨he, hw⟩ => ⟨he, upd_same h hr hw⟩

set_option maxHeartbeats 800000 in
theorem bsPut_no (a0 : Option Addr) (cap0 : Nat) (b : List Bool) (f t : Nat) (how : Int) (w : World) (hrb : RB w a0 b.length cap0 b) (hn : b.length ≤ 1048576) (hft : t ≤ f) :
    Calls Try.prog 32 #[.slice a0 b.length cap0, .int .i64 (f : Int), .int .i64 (t : Int), .int .i64 how] w (RetBools b w) := by
  have hft' : (t : Int) ≤ (f : Int) := by omega
  have HRB := Lib.hid hrb
  clear hrb
  go_enter Try.func32, Try.ntmps32
  go_wp2_with (at_builtin; refine wpList_append b.length (B b) rfl _ _ _ _ rfl slBool rfl (own_empty _ (default : World) _ _ (heap_alloc_new' _ _ _ rfl)) rfl (Rd.src ((HRB.out.keep (S := fun _ => False) (by repeat (first | exact Only.refl _ _ | apply Only.alloc)) (fun _ _ => id)).1) Try.underlying31) (Nat.zero_add _) rfl (by unfold maxLen; omega) (by omega) ?_)
  intro a1 cap1 w1 hG
  have HO1 : Hid (Only (fun _ => False) w w1) := Lib.hid (((Only.refl _ w).alloc _).trans hG.only (fun j hj h => by have : w.heap.size = j := h; omega))
  have HF1 : Hid (∀ j, At a1 j → w.heap.size ≤ j) := Lib.hid (fun j hj => by
    rcases hG.fresh j hj with h | h
    · have : w.heap.size = j := h; omega
    · simp at h; omega)
  have HOW1 := Lib.hid hG.own
  clear hG
  go_wp2_with fail
  go_ret
  exact ⟨a1, cap1, rfl, ⟨HOW1.out.rd, rfl⟩, HO1.out, HF1.out⟩

theorem bsPutR1 (a0 : Option Addr) (cap0 : Nat) (b : List Bool) (f t : Nat) (w : World) (hrb : RB w a0 b.length cap0 b) (hn : b.length ≤ 1048576) (ht : t ≤ 1048576) (hf : f ≤ 1048576) :
    Calls Try.prog 32 #[.slice a0 b.length cap0, .int .i64 (f : Int), .int .i64 (t : Int), .int .i64 1] w (RetBools (rangeL b f t 1) w) := by
  unfold rangeL
  by_cases hft : f < t
  · rw [if_pos hft]; exact bsPut1 a0 cap0 b f t w hrb hn ht hf hft
  · rw [if_neg hft]; exact bsPut_no a0 cap0 b f t 1 w hrb hn (by omega)
theorem bsPutR2 (a0 : Option Addr) (cap0 : Nat) (b : List Bool) (f t : Nat) (w : World) (hrb : RB w a0 b.length cap0 b) (hn : b.length ≤ 1048576) (ht : t ≤ 1048576) (hf : f ≤ 1048576) :
    Calls Try.prog 32 #[.slice a0 b.length cap0, .int .i64 (f : Int), .int .i64 (t : Int), .int .i64 2] w (RetBools (rangeL b f t 2) w) := by
  unfold rangeL
  by_cases hft : f < t
  · rw [if_pos hft]; exact bsPut2 a0 cap0 b f t w hrb hn ht hf hft
  · rw [if_neg hft]; exact bsPut_no a0 cap0 b f t 2 w hrb hn (by omega)

set_option maxRecDepth 100000 in
set_option maxHeartbeats 800000 in
theorem implSetRange (v : Value) (b : List Bool) (f t : Nat) (w : World) (h : BV w v b) (hn : b.length ≤ 1048000) (ht : t ≤ 1048000) :
    Calls Try.prog 31 #[v, .int .u64 (f : Int), .int .u64 (t : Int)] w (RetBits (rangeL b f t 1) w) := by
  have hlen : ((rangeL b f t 1)).length ≤ 1048576 := by have := rangeL_len b f t 1; omega
  obtain ⟨a, m, cap, rfl, hr⟩ := h
  have hW : Only (fun _ => False) w ((w.alloc (.cells #[.int .u64 (b.length : Int), .slice a m cap] 25)).alloc (.cells #[.int .u64 0, .slice none 0 0] 25)) := ((Only.refl _ w).alloc _).alloc _
  have hres : ((w.alloc (.cells #[.int .u64 (b.length : Int), .slice a m cap] 25)).alloc (.cells #[.int .u64 0, .slice none 0 0] 25)).heap[w.heap.size + 1]? = some (.cells #[.int .u64 0, .slice none 0 0] 25 (0, 0)) := heap_alloc_new' _ _ _ (by simp)
  have HS := Lib.hid (set64 (.agg #[.int .u64 (b.length : Int), .slice a m cap]) b _ ⟨a, m, cap, rfl, hr.keep hW (fun _ _ => id)⟩ (by omega))
  have HW := Lib.hid hW
  have HR := Lib.hid hres
  clear hr hW hres
  go_enter Try.func31, Try.ntmps31
  go_wp2_with fail
  refine HS.out.mono ?_
  rintro e w1 ⟨o, rfl, hok, hrep, hm, hO1, hf1⟩
  have hw1 : ∀ k, o.foot k → w.heap.size + 1 + 1 ≤ k := fun k hk => by have := hf1 k hk; simp at this; omega
  have HO1 := Lib.hid hO1
  have HF1 := Lib.hid hf1
  have HM := Lib.hid hm
  clear hO1 hf1 hw1 hm
  go_wp2_with fail
  refine (setRange o b f t _ hok hrep (by omega) (by omega)).mono ?_
  rintro e w2 ⟨rfl, o', hp', hok', hrep', hO2, hf2⟩
  have HS2 := Lib.hid (said64_at o o' _ w2 hp' hok' hrep' hlen)
  have HO2 := Lib.hid hO2
  clear hp' hok' hrep' hO2 hf2 hok hrep
  go_wp2_with fail
  refine HS2.out.mono ?_
  rintro e w3 ⟨a3, m3, cap3, rfl, hu3, hO3, hf3⟩
  have HT := Lib.hid (told_mk HW.out (Nat.le_succ _) HR.out HO1.out HF1.out HO2.out hO3 hu3 hf3)
  have r0 : w3.cell? ⟨w.heap.size + 1, 0, none⟩ = some (.int .u64 0) := block_cell HT.out.res rfl
  have r1 : w3.cell? ⟨w.heap.size + 1, 1, none⟩ = some (.slice none 0 0) := block_cell HT.out.res rfl
  have rf0 : w3.frozen? ⟨w.heap.size + 1, 0, none⟩ = false := block_free HT.out.res
  have rf1 : w3.frozen? ⟨w.heap.size + 1, 1, none⟩ = false := block_free HT.out.res
  clear hu3 hO3 hf3
  go_wp2_with fail
  refine bodyPost_ret (v := .agg #[.int .u64 (((rangeL b f t 1)).length : Int), .slice a3 m3 cap3]) ?_ rfl HT.out.ret
  simp [results, Try.results31, go_sem, r0, r1]

set_option maxRecDepth 100000 in
set_option maxHeartbeats 800000 in
theorem implFlipRange (v : Value) (b : List Bool) (f t : Nat) (w : World) (h : BV w v b) (hn : b.length ≤ 1048000) (ht : t ≤ 1048000) :
    Calls Try.prog 33 #[v, .int .u64 (f : Int), .int .u64 (t : Int)] w (RetBits (rangeL b f t 2) w) := by
  have hlen : ((rangeL b f t 2)).length ≤ 1048576 := by have := rangeL_len b f t 2; omega
  obtain ⟨a, m, cap, rfl, hr⟩ := h
  have hW : Only (fun _ => False) w ((w.alloc (.cells #[.int .u64 (b.length : Int), .slice a m cap] 25)).alloc (.cells #[.int .u64 0, .slice none 0 0] 25)) := ((Only.refl _ w).alloc _).alloc _
  have hres : ((w.alloc (.cells #[.int .u64 (b.length : Int), .slice a m cap] 25)).alloc (.cells #[.int .u64 0, .slice none 0 0] 25)).heap[w.heap.size + 1]? = some (.cells #[.int .u64 0, .slice none 0 0] 25 (0, 0)) := heap_alloc_new' _ _ _ (by simp)
  have HS := Lib.hid (set64 (.agg #[.int .u64 (b.length : Int), .slice a m cap]) b _ ⟨a, m, cap, rfl, hr.keep hW (fun _ _ => id)⟩ (by omega))
  have HW := Lib.hid hW
  have HR := Lib.hid hres
  clear hr hW hres
  go_enter Try.func33, Try.ntmps33
  go_wp2_with fail
  refine HS.out.mono ?_
  rintro e w1 ⟨o, rfl, hok, hrep, hm, hO1, hf1⟩
  have hw1 : ∀ k, o.foot k → w.heap.size + 1 + 1 ≤ k := fun k hk => by have := hf1 k hk; simp at this; omega
  have HO1 := Lib.hid hO1
  have HF1 := Lib.hid hf1
  have HM := Lib.hid hm
  clear hO1 hf1 hw1 hm
  go_wp2_with fail
  refine (flipRange o b f t _ hok hrep (by omega) (by omega)).mono ?_
  rintro e w2 ⟨rfl, o', hp', hok', hrep', hO2, hf2⟩
  have HS2 := Lib.hid (said64_at o o' _ w2 hp' hok' hrep' hlen)
  have HO2 := Lib.hid hO2
  clear hp' hok' hrep' hO2 hf2 hok hrep
  go_wp2_with fail
  refine HS2.out.mono ?_
  rintro e w3 ⟨a3, m3, cap3, rfl, hu3, hO3, hf3⟩
  have HT := Lib.hid (told_mk HW.out (Nat.le_succ _) HR.out HO1.out HF1.out HO2.out hO3 hu3 hf3)
  have r0 : w3.cell? ⟨w.heap.size + 1, 0, none⟩ = some (.int .u64 0) := block_cell HT.out.res rfl
  have r1 : w3.cell? ⟨w.heap.size + 1, 1, none⟩ = some (.slice none 0 0) := block_cell HT.out.res rfl
  have rf0 : w3.frozen? ⟨w.heap.size + 1, 0, none⟩ = false := block_free HT.out.res
  have rf1 : w3.frozen? ⟨w.heap.size + 1, 1, none⟩ = false := block_free HT.out.res
  clear hu3 hO3 hf3
  go_wp2_with fail
  refine bodyPost_ret (v := .agg #[.int .u64 (((rangeL b f t 2)).length : Int), .slice a3 m3 cap3]) ?_ rfl HT.out.ret
  simp [results, Try.results33, go_sem, r0, r1]
end Go.Proofs.Ythnfoiaemeklnaa.bs

/-
  The reference's functions on Bits, further: BSSame, BSIn, BSBools.
-/
import Derived.Test.YtgndpckcdageiaaBsSpecA
namespace Go.Proofs.Ytgndpckcdageiaa.bs
open Go.RowKit Go.Proofs.Ytgndpckcdageiaa.base Go.Proofs.Ytgndpckcdageiaa.heap Go.Proofs.Ytgndpckcdageiaa.bit
set_option linter.unusedVariables false

theorem ones_eq_iff {a b : List Bool} (hl : a.length = b.length) : decide (ones a = ones b) = decide (a = b) := by
  by_cases h : a = b
  · subst h; simp
  · have : ones a ≠ ones b := fun e => h (ones_inj hl e)
    simp [h, this]

set_option maxHeartbeats 400000 in
/-- BSSame: are two Bits the same? -/
theorem bsSame (v v' : Value) (b b' : List Bool) (w : World) (h : BV w v b) (h' : BV w v' b') (hn : b.length ≤ 1048576) (hn' : b'.length ≤ 1048576) :
    Calls Try.prog 11 #[v, v'] w (RetV (.bool (decide (b = b'))) w) := by
  obtain ⟨a, m, cap, rfl, hr⟩ := h
  obtain ⟨a', m', cap', rfl, hr'⟩ := h'
  have hm : m ≤ 1048576 := by have := ones_le b; rw [hr.2] at this; omega
  have hm' : m' ≤ 1048576 := by have := ones_le b'; rw [hr'.2] at this; omega
  by_cases hl : b.length = b'.length
  · have HE := Lib.hid (ones_eq_iff hl)
    have hbb : ((b.length : Int) == (b'.length : Int)) = true := by rw [hl]; simp
    have HR := Lib.hid hr
    have HR' := Lib.hid hr'
    clear hr hr' hl
    go_enter Try.func11, Try.ntmps11
    go_wp2_with fail
    refine (bsList _ _ _ _ _ _ _ _ _ ((HR.out.keep (S := fun _ => False) (by exact ((Only.refl _ w).alloc _).alloc _) (fun _ _ => id))) ((HR'.out.keep (S := fun _ => False) (by exact ((Only.refl _ w).alloc _).alloc _) (fun _ _ => id))) hm hm').mono ?_
    rintro e w' ⟨rfl, q, rfl⟩
    go_wp2_with fail
    go_ret
    exact ⟨by rw [← HE.out]; rfl, (((Only.refl _ w).alloc _).alloc _).drewN _⟩
  · have hne : decide (b = b') = false := by simp; exact fun e => hl (by rw [e])
    have hbb : ((b.length : Int) == (b'.length : Int)) = false := by rw [beq_eq_false_iff_ne]; omega
    rw [hne]
    clear hr hr' hne hl
    go_enter Try.func11, Try.ntmps11
    go_wp2_with fail
    go_ret
    exact ⟨rfl, ((Only.refl _ w).alloc _).alloc _⟩

theorem last_lt {b : List Bool} (h : 0 < (ones b).length) : (ones b).getD ((ones b).length - 1) 0 < b.length := by
  have hm : (ones b).getD ((ones b).length - 1) 0 ∈ ones b := by
    rw [show (ones b).getD ((ones b).length - 1) 0 = (ones b)[(ones b).length - 1]'(by omega) from by simp [show (ones b).length - 1 < (ones b).length by omega]]
    exact List.getElem_mem _
  exact ones_lt hm

theorem marks_set (n : Nat) (l : List Nat) (x : Nat) (hx : x < n) : (marks n l).set x true = marks n (l ++ [x]) := by
  apply ext_getD
  · simp [marks_length]
  · intro i hi
    rw [List.length_set, marks_length] at hi
    rw [marks_get]
    simp only [List.getD_eq_getElem?_getD, List.getElem?_set, marks_length]
    by_cases h : x = i
    · subst h; simp [hx]
    · have := marks_get n l i
      simp only [List.getD_eq_getElem?_getD] at this
      simp [h, this, Ne.symm h, hi]
theorem marks_nil (n : Nat) : marks n [] = List.replicate n false := by
  apply ext_getD
  · simp [marks_length]
  · intro i hi
    rw [marks_get]
    simp only [List.getD_eq_getElem?_getD, List.getElem?_replicate]
    split <;> simp

set_option maxHeartbeats 1600000 in
/-- BSBools: the bits of Bits -/
theorem bsBools (v : Value) (b : List Bool) (w : World) (h : BV w v b) (hn : b.length ≤ 1048576) : Calls Try.prog 6 #[v] w (RetBools b w) := by
  obtain ⟨a, m, cap, rfl, hr⟩ := h
  have hm : m ≤ 1048576 := by have := ones_le b; rw [hr.2] at this; omega
  have hl : ∀ i ∈ ones b, i < b.length := fun i hi => ones_lt hi
  have HB := Lib.hid (marks_ones b)
  generalize ones b = l at *
  have hmk := fun w => make_bools .u64 b.length (by omega) w
  have hbd := hr.1.bound
  go_enter Try.func6, Try.ntmps6
  go_wp2_with fail
  obtain ⟨w1, hw1⟩ : ∃ w1, w1 = (w.alloc (.cells #[.int .u64 (b.length : Int), .slice a m cap] 25)).alloc (.cells (madeCells #[.bool false] b.length) 4) := ⟨_, rfl⟩
  have hO1 : Only (fun _ => False) w w1 := by rw [hw1]; exact ((Only.refl _ w).alloc _).alloc _
  have hbox : w1.heap[w.heap.size]? = some (.cells #[.int .u64 (b.length : Int), .slice a m cap] 25 (0, 0)) := by
    rw [hw1, Below.heap_alloc _ _ _ (by simp)]; exact heap_alloc_new' _ _ _ rfl
  have hrow : w1.heap[w.heap.size + 1]? = some (.cells (madeCells #[.bool false] b.length) 4 (0, 0)) := by
    rw [hw1]; exact heap_alloc_new' _ _ _ (by simp)
  have hown : Own 4 1 w1 (some ⟨w.heap.size + 1, 0, none⟩) b.length b.length (B (marks b.length (l.take 0))) := by
    have h1 := Own.of_block hrow (size := 1) b.length b.length (Nat.le_refl _) (by unfold maxLen; omega) (by rw [bools_size]; omega) (by rw [bools_list]; exact fun u hu => B_one _ u (List.mem_of_mem_take hu))
    rw [bools_list, B_take] at h1
    rwa [show (List.replicate b.length false).take (b.length * 1) = marks b.length (l.take 0) from by rw [List.take_of_length_le (by simp)]; simp [marks_nil]] at h1
  rw [← hw1]
  have hlen := hr.2
  have HR1 := Lib.hid hr
  have HO1 := Lib.hid hO1
  have HBOX := Lib.hid hbox
  have HOWN := Lib.hid hown
  have HL := Lib.hid hl
  have HLEN := Lib.hid hlen
  have hsz : w.heap.size + 1 < w1.heap.size := lt_of_heap hrow
  clear hr hmk hw1 hO1 hbox hrow hown hl hlen
  go_loopw [4] (fun i wr => ∃ k : Nat, k ≤ m ∧ i = .int .i64 (k : Int) ∧ Only (fun j => j = w.heap.size + 1) w1 wr ∧ Own 4 1 wr (some ⟨w.heap.size + 1, 0, none⟩) b.length b.length (B (marks b.length (l.take k)))) (fun i _ => m - (intOf i).toNat)
  case atStart => exact ⟨0, Nat.zero_le _, rfl, Only.refl _ _, HOWN.out⟩
  case round =>
    obtain ⟨k, hk, rfl, hO, hown⟩ := hrel
    have hbox := hO.obj HBOX.out (by omega)
    have c1 : wr.cell? ⟨w.heap.size, 1, none⟩ = some (.slice a m cap) := block_cell hbox rfl
    have HO := Lib.hid hO
    have HOW := Lib.hid hown
    clear hO hown hbox HOWN
    by_cases hlt : k < m
    · have hlt' : (k : Int) < (m : Int) := by omega
      obtain ⟨x, off, rfl, hx, hc⟩ := HR1.out.at (by omega)
      have hkl : k < l.length := by rw [HLEN.out]; exact hlt
      have hmem : l.getD k 0 ∈ l := by
        rw [show l.getD k 0 = l[k] from by simp [hkl]]; exact List.getElem_mem hkl
      have hin := HL.out _ hmem
      have HT : Hid (l.take (k + 1) = l.take k ++ [l.getD k 0]) := Lib.hid (by
        rw [List.take_add_one, List.getElem?_eq_getElem hkl]; simp [hkl])
      have ck1 := hc k hlt
      clear hc hmem hkl
      generalize l.getD k 0 = y at *
      obtain ⟨bb, hbb, hbl, hbc⟩ := HOW.out.at (by omega)
      cases hbb
      have ck : wr.cell? ⟨x, off + k, none⟩ = some (.int .u64 (y : Int)) := (HO.out.cell (p := ⟨x, off + k, none⟩) (by show x < _; omega) (by show ¬ x = _; omega)).trans ((HO1.out.cell (p := ⟨x, off + k, none⟩) hx id).trans ck1)
      have cs : wr.cell? ⟨w.heap.size + 1, y, none⟩ = some (.bool ((marks b.length (l.take k)).getD y false)) := by
        have := hbc y _ (B_get _ y (by rw [marks_length]; exact hin))
        simpa using this
      have fs := HOW.out.frozen rfl y
      have hyi : (y : Int) < (b.length : Int) := by omega
      clear hbc ck1
      go_wp2_with fail
      go_roundw
      case rel =>
        refine ⟨k + 1, by omega, by go_num, HO.out.setCell _ _ (fun _ => rfl), ?_⟩
        rw [HT.out, ← marks_set _ _ _ hin, ← B_set]
        exact HOW.out.set rfl y (.bool true) rfl (by omega)
      case measure => simp [intOf]; omega
    · obtain rfl : k = m := by omega
      go_wp2_with fail
      go_ret
      refine ⟨_, _, rfl, ⟨?_, rfl⟩, HO1.out.trans HO.out (fun j hj e => by omega), fun j hj => by have : w.heap.size + 1 = j := hj; omega⟩
      have h2 := HOW.out.rd
      rwa [List.take_of_length_le (by rw [HLEN.out]; exact Nat.le_refl _), HB.out] at h2
end Go.Proofs.Ytgndpckcdageiaa.bs

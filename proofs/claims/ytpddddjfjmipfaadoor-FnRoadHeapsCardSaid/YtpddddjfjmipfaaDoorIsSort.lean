/-
  Slices of numbers: Sort, over the library's contract of sort.Sort.
-/
import Derived.Test.YtpddddjfjmipfaaDoorIsIns
import Derived.Test.YtpddddjfjmipfaaDoorShelf
namespace Go.Proofs.YtpddddjfjmipfaaDoor.isl
open Go.RowKit Go.Proofs.YtpddddjfjmipfaaDoor.base Go.Proofs.YtpddddjfjmipfaaDoor.heap Go.Proofs.YtpddddjfjmipfaaDoor.srt
set_option linter.unusedVariables false

/-- a row that the sort has written -/
theorem put_row {w w' : World} {b n cap k : Nat} {xs : List Value} {d : Array Int} {os : Array Obj} (h : Own 2 1 w (some ⟨b, 0, none⟩) n cap xs) (hd : d.size = n)
    (hw : w' = Sort.grow (Sort.putRow (Value.int .i64) (Sort.ahead w k) b 0 d) os) : Own 2 1 w' (some ⟨b, 0, none⟩) n cap (I d.toList) ∧ Only (fun j => j = b) w w' := by
  rcases h.alt with ⟨hc, _⟩ | ⟨b', cur, hb', hb, hs, ht⟩
  · cases hc
  · cases hb'
    have hlt := lt_of_heap hb
    have hheap : w'.heap = (w.heap.modify b (Sort.onCells (Sort.putCells (Value.int .i64) 0 d))) ++ os := by rw [hw]; rfl
    have h1 : w'.heap[b]? = some (.cells (Sort.putCells (Value.int .i64) 0 d cur) 2 (0, 0)) := by
      rw [hheap, Array.getElem?_append_left (by simpa using hlt), Array.getElem?_modify, if_pos rfl, hb]
      rfl
    have hcap := h.le
    have h2 := Own.of_block (size := 1) h1 n cap hcap h.max (by simp [Sort.putCells]; omega)
    have e : (Sort.putCells (Value.int .i64) 0 d cur).toList.take (n * 1) = I d.toList := by
      apply List.ext_getElem?
      intro j
      unfold I
      rw [Nat.mul_one, List.getElem?_take, List.getElem?_map]
      by_cases hj : j < n
      · rw [if_pos hj]
        have hjc : j < cur.size := by omega
        have hjd : j < d.size := by omega
        simp [Sort.putCells, hjc, hjd]
      · rw [if_neg hj, List.getElem?_eq_none (by simpa using (by omega : d.size ≤ j))]
        rfl
    rw [e] at h2
    refine ⟨h2 (I_one _), ⟨by rw [hw]; rfl, by rw [hw]; rfl, by rw [hw]; rfl, by rw [hheap]; simp, fun j hj hne => ?_⟩⟩
    rw [hheap, Array.getElem?_append_left (by simpa using hj), Array.getElem?_modify, if_neg (fun e => hne e.symm)]

open Go.Proofs Go.Shelf Go.Lib

theorem len_reached (p : Option Addr) (n c : Nat) : Reaches Tryd.prog 61 (.slice p n c) "Len" 76 := ⟨fun _ => by kernel_rfl, enters_of Tryd.func76 (by kernel_rfl) rfl⟩
theorem less_reached (p : Option Addr) (n c : Nat) : Reaches Tryd.prog 61 (.slice p n c) "Less" 77 := ⟨fun _ => by kernel_rfl, enters_of Tryd.func77 (by kernel_rfl) rfl⟩
theorem swap_reached (p : Option Addr) (n c : Nat) : Reaches Tryd.prog 61 (.slice p n c) "Swap" 78 := ⟨fun _ => by kernel_rfl, enters_of Tryd.func78 (by kernel_rfl) rfl⟩

theorem lenM (p : Option Addr) (n c : Nat) (W : World) : LenM Tryd.prog 76 (.slice p n c) n W := by
  unfold LenM
  go_enter Tryd.func76, Tryd.ntmps76
  go_wp2
  go_ret
  exact ⟨rfl, 0, rfl⟩

set_option maxHeartbeats 2000000 in
theorem ints_Less (blk off c size : Nat) (W : World) (G : Nat → Int) (hc : ∀ t, t < size → W.cell? ⟨blk, off + t, none⟩ = some (.int .i64 (G t))) (i j : Nat) (hi : i < size) (hj : j < size) :
    Calls Tryd.prog 77 #[.slice (some ⟨blk, off, none⟩) size c, .int .i64 i, .int .i64 j] W fun e w' => e = .returned (.bool (decide (G i < G j))) ∧ ∃ q, w' = W.drewN q := by
  have ci := hc i hi
  have cj := hc j hj
  have hi' : (i : Int) < (size : Int) := by omega
  have hj' : (j : Int) < (size : Int) := by omega
  clear hc
  generalize G i = x at *
  generalize G j = y at *
  go_enter Tryd.func77, Tryd.ntmps77
  go_wp2
  go_quiet (fail)
  go_wp2
  go_ret
  exact ⟨rfl, _, rfl⟩

set_option maxHeartbeats 2000000 in
theorem ints_Swap (blk off c size : Nat) (W : World) (x y : Int) (i j : Nat) (hi : i < size) (hj : j < size)
    (ci : W.cell? ⟨blk, off + i, none⟩ = some (.int .i64 x)) (cj : W.cell? ⟨blk, off + j, none⟩ = some (.int .i64 y)) (fi : W.frozen? ⟨blk, off + i, none⟩ = false) (fj : W.frozen? ⟨blk, off + j, none⟩ = false) :
    Calls Tryd.prog 78 #[.slice (some ⟨blk, off, none⟩) size c, .int .i64 i, .int .i64 j] W fun e w' => e = .returned (.tuple #[]) ∧ ∃ q, w' = ((W.setCell ⟨blk, off + i, none⟩ (.int .i64 y)).setCell ⟨blk, off + j, none⟩ (.int .i64 x)).drewN q := by
  have hi' : (i : Int) < (size : Int) := by omega
  have hj' : (j : Int) < (size : Int) := by omega
  obtain ⟨v', hy'⟩ := cell?_setCell_some (w := W) (p := ⟨blk, off + i, none⟩) (x := .int .i64 y) (q := ⟨blk, off + j, none⟩) cj
  go_enter Tryd.func78, Tryd.ntmps78
  go_wp2
  go_region
  all_goals (try go_wp2)
  all_goals go_end0
  all_goals exact ⟨rfl, 1, rfl⟩

theorem lessM (blk off c : Nat) (d : Array Int) (w : World) (hH : Sort.Holds (Value.int .i64) w blk off d) (hblk : blk < w.heap.size) :
    LessM Tryd.prog 77 (.slice (some ⟨blk, off, none⟩) d.size c) (Value.int .i64) Sort.ltInt blk off d.size w := fun m os dk hs i j hi hj =>
  ints_Less blk off c d.size _ (fun t => dk[t]!) (fun t ht => ((holds_sortWorld (Value.int .i64) w blk off m d dk os hblk hH hs) t (by omega)).1) i j hi hj
theorem swapM (blk off c size : Nat) : SwapM Tryd.prog 78 (.slice (some ⟨blk, off, none⟩) size c) (Value.int .i64) blk off size := fun W dk hH hs i j hi hj =>
  ints_Swap blk off c size W dk[i]! dk[j]! i j hi hj (hH i (by omega)).1 (hH j (by omega)).1 (hH i (by omega)).2 (hH j (by omega)).2

/-- what the sort leaves -/
def Ordered (b n cap : Nat) (l : List Int) (w : World) (e : Ending) (w' : World) : Prop := e = .returned (.tuple #[]) ∧ Own 2 1 w' (some ⟨b, 0, none⟩) n cap (I (isort l)) ∧ Only (fun j => j = b) w w'

theorem sortSort (b n cap : Nat) (l : List Int) (w : World) (h : Own 2 1 w (some ⟨b, 0, none⟩) n cap (I l)) (hn : n ≤ 1000) :
    Calls Tryd.prog 31 #[.iface 61 (.slice (some ⟨b, 0, none⟩) n cap)] w (Ordered b n cap l w) := by
  have hl : l.length = n := by simpa [I] using h.len
  by_cases h2 : 2 ≤ n
  · have hsz : l.toArray.size = n := by simpa using hl
    obtain ⟨b', he, hb, hcs⟩ := h.at (by omega)
    cases he
    have hH : Sort.Holds (Value.int .i64) w b 0 l.toArray := fun j hj => by
      refine ⟨?_, h.frozen rfl _⟩
      have hj' : j < l.length := by simpa using hj
      rw [hcs j _ (I_get l j hj')]
      simp [hj']
    have hS := Tryd.sort_Sort_sorted 61 (.slice (some ⟨b, 0, none⟩) n cap) _ _ _ (len_reached _ _ _) (less_reached _ _ _) (swap_reached _ _ _) (Value.int .i64) Sort.ltInt Sort.swo_ltInt b 0 l.toArray (by omega) (by omega) w
      (by rw [hsz]; exact lenM _ _ _ _) (by have := lessM b 0 cap l.toArray w hH hb; rw [hsz] at this ⊢; exact this) (by rw [hsz]; exact swapM b 0 cap n) hH hb
    refine hS.mono (fun e w' ⟨he, d', k, os, hP, hSo, hw⟩ => ?_)
    have hd : d'.size = n := by rw [hP.1, hsz]
    have hr := put_row h hd hw
    have hlist : d'.toList = isort l := by
      refine isort_unique ?_ ?_
      · have hp := hP.2.2
        rw [hsz] at hp
        have e1 : d'.extract 0 n = d' := by rw [← hd]; exact Array.extract_size
        have e2 : (l.toArray).extract 0 n = l.toArray := by rw [← hsz]; exact Array.extract_size
        rw [e1, e2] at hp
        exact hp
      · unfold srt.Sorted
        rw [List.pairwise_iff_getElem]
        intro p q hp hq hpq
        have hp' : p < d'.size := by simpa using hp
        have hq' : q < d'.size := by simpa using hq
        have := hSo p q (Nat.zero_le _) hpq (by omega)
        simp only [Sort.ltInt, decide_eq_false_iff_not] at this
        rw [getElem!_pos d' p hp', getElem!_pos d' q hq'] at this
        simp only [Array.getElem_toList]
        omega
    rw [hlist] at hr
    exact ⟨he, hr.1, hr.2⟩
  · have hS := Tryd.sort_Sort_tiny (α := Int) 61 (.slice (some ⟨b, 0, none⟩) n cap) _ (len_reached _ _ _) n (by omega) w (lenM _ _ _ _)
    refine hS.mono (fun e w' ⟨he, q, hw⟩ => ?_)
    have hlist : l = isort l := by
      refine isort_unique (List.Perm.refl _) ?_
      unfold srt.Sorted
      match l, hl with
      | [], _ => exact List.Pairwise.nil
      | [x], _ => simp
      | x :: y :: r, hl => simp at hl; omega
    unfold Ordered
    rw [← hlist, hw]
    exact ⟨he, h.drewN q, (Only.refl _ w).drewN q⟩

set_option maxHeartbeats 400000 in
theorem sortM (b n cap : Nat) (l : List Int) (w : World) (h : Own 2 1 w (some ⟨b, 0, none⟩) n cap (I l)) (hn : n ≤ 1000) :
    Calls Tryd.prog 14 #[.slice (some ⟨b, 0, none⟩) n cap] w (Ordered b n cap l w) := by
  have HS := Lib.hid (sortSort b n cap l w h hn)
  clear h
  go_enter Tryd.func14, Tryd.ntmps14
  go_wp2_with fail
  refine HS.out.mono ?_
  intro e w' hO
  obtain ⟨rfl, h1, h2⟩ := hO
  have HF : Hid (Ordered b n cap l w (.returned (.tuple #[])) w') := Lib.hid ⟨rfl, h1, h2⟩
  clear h1 h2
  go_wp2_with fail
  go_end0
  exact HF.out

/-- ISSort: a sorted copy -/
def SortedCopy (l : List Int) (n : Nat) (w : World) (e : Ending) (w' : World) : Prop := ∃ a cap, e = .returned (.slice a n cap) ∧ Own 2 1 w' a n cap (I (isort l)) ∧ Only (fun _ => False) w w'
set_option maxHeartbeats 400000 in
theorem isSort (a : Option Addr) (n cap : Nat) (l : List Int) (w : World) (h : Rd 1 w a n cap (I l)) (h0 : 0 < n) (hn : n ≤ 1000) :
    Calls Tryd.prog 6 #[.slice a n cap] w (SortedCopy l n w) := by
  have H := Lib.hid h
  clear h
  go_enter Tryd.func6, Tryd.ntmps6
  go_wp2_with fail
  refine (ints a n cap _ _ H.out (by omega)).mono ?_
  rintro e w1 ⟨a1, cap1, rfl, ho, hO, hf⟩
  obtain ⟨b1, rfl, hb1, -⟩ := ho.at h0
  have HS := Lib.hid (sortM b1 n cap1 l w1 ho hn)
  have HO := Lib.hid hO
  have HF := Lib.hid hf
  clear ho hO hf
  go_wp2_with fail
  refine HS.out.mono ?_
  intro e w2 hh
  obtain ⟨rfl, ho2, hO2⟩ := hh
  have HFIN : Hid (SortedCopy l n w (.returned (.slice (some ⟨b1, 0, none⟩) n cap1)) w2) := Lib.hid ⟨_, _, rfl, ho2, HO.out.trans hO2 (fun k hk e => by subst e; have := HF.out k rfl; omega)⟩
  clear ho2 hO2
  go_wp2_with fail
  go_ret
  exact HFIN.out

/-- no numbers: the copy is nil -/
theorem ints_none (a : Option Addr) (cap : Nat) (w : World) (h : Rd 1 w a 0 cap (I [])) :
    Calls Tryd.prog 13 #[.slice a 0 cap] w fun e w' => e = .returned (.slice none 0 0) ∧ Only (fun _ => False) w w' := by
  go_enter Tryd.func13, Tryd.ntmps13
  go_wp2_with (at_builtin; refine wpList_append 0 (I []) rfl _ _ _ _ rfl slNamed rfl (Own.nil _ _ _) rfl (h.src Tryd.underlying25) (Nat.zero_add 0) rfl (by unfold maxLen; omega) (by omega) ?_)
  intro a' cap' w1 hG
  obtain ⟨e1, e2⟩ := hG.same rfl
  have HO : Hid (Only (fun _ => False) w w1) := Lib.hid (hG.only.mono (fun _ _ f => f))
  clear hG
  subst e1 e2
  go_wp2
  go_ret
  exact ⟨rfl, HO.out⟩
set_option maxHeartbeats 400000 in
theorem sortM_none (w : World) : Calls Tryd.prog 14 #[.slice none 0 0] w fun e w' => e = .returned (.tuple #[]) ∧ Only (fun _ => False) w w' := by
  have HS := Lib.hid (Tryd.sort_Sort_tiny (α := Int) 61 (.slice none 0 0) _ (len_reached _ _ _) 0 (by omega) w (lenM _ _ _ _))
  go_enter Tryd.func14, Tryd.ntmps14
  go_wp2_with fail
  refine HS.out.mono ?_
  rintro e w' ⟨rfl, q, rfl⟩
  go_wp2_with fail
  go_end0
  exact ⟨rfl, (Only.refl _ w).drewN q⟩
set_option maxHeartbeats 400000 in
theorem isSort_none (a : Option Addr) (cap : Nat) (w : World) (h : Rd 1 w a 0 cap (I [])) :
    Calls Tryd.prog 6 #[.slice a 0 cap] w (SortedCopy [] 0 w) := by
  have H := Lib.hid h
  clear h
  go_enter Tryd.func6, Tryd.ntmps6
  go_wp2_with fail
  refine (ints_none a cap _ H.out).mono ?_
  rintro e w1 ⟨rfl, hO⟩
  go_wp2_with fail
  refine (sortM_none w1).mono ?_
  rintro e w2 ⟨rfl, hO2⟩
  have HFIN : Hid (SortedCopy [] 0 w (.returned (.slice none 0 0)) w2) := Lib.hid ⟨_, _, rfl, Own.nil _ _ _, hO.trans hO2 (fun _ _ f => f)⟩
  clear hO hO2
  go_wp2_with fail
  go_ret
  exact HFIN.out

theorem isSort_any (a : Option Addr) (n cap : Nat) (l : List Int) (w : World) (h : Rd 1 w a n cap (I l)) (hn : n ≤ 1000) :
    Calls Tryd.prog 6 #[.slice a n cap] w (SortedCopy l n w) := by
  by_cases h0 : 0 < n
  · exact isSort a n cap l w h h0 hn
  · obtain rfl : n = 0 := by omega
    obtain rfl : l = [] := by have := h.len; rw [I_len] at this; exact List.eq_nil_of_length_eq_zero (by omega)
    exact isSort_none a cap w h
end Go.Proofs.YtpddddjfjmipfaaDoor.isl

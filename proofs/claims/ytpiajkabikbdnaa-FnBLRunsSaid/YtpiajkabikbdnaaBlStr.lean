/-
  AddString.
-/
import Derived.Test.YtpiajkabikbdnaaBlAdd
import Derived.Laws.IdiomStrings
namespace Go.Proofs.Ytpiajkabikbdnaa.bs
open Go.RowKit Go.Proofs.Ytpiajkabikbdnaa.base Go.Proofs.Ytpiajkabikbdnaa.heap Go.Proofs.Ytpiajkabikbdnaa.bit
set_option linter.unusedVariables false


/-- the bytes of a string, as numbers -/
def nums (s : ByteArray) : List Nat := s.data.toList.map (fun b => b.toNat)
theorem nums_len (s : ByteArray) : (nums s).length = s.size := by
  unfold nums
  rw [List.length_map, Array.length_toList]
  rfl
theorem nums_row (s : ByteArray) (cap : Nat) : (bytesRow s cap).toList.take s.size = By (nums s) := by
  unfold bytesRow By nums
  rw [Array.toList_append, Array.toList_map, List.take_left' (by rw [List.length_map, Array.length_toList]; rfl), List.map_map]
  rfl
theorem bytes_read (w : World) (s : ByteArray) (hs : s.size ≤ 1048576) (e : TypeId) (fr : Nat × Nat) :
    RY (w.drew.alloc (.cells (bytesRow s (grownCap w s.size 0 e)) e fr)) (some ⟨w.heap.size, 0, none⟩) s.size (grownCap w s.size 0 e) (nums s) := by
  have hge := grownCap_ge w s.size 0 e
  have hcm : grownCap w s.size 0 e ≤ maxLen := grownCap_le_maxLen w s.size 0 e (by unfold maxLen; omega)
  refine ⟨⟨by unfold By; rw [List.length_map, nums_len, Nat.mul_one], hge, hcm, ?_, fun _ => ⟨w.heap.size, 0, rfl, by simp, fun j v hj => ?_⟩, fun h => by cases h⟩, nums_len s⟩
  · intro u hu
    obtain ⟨_, _, rfl⟩ := List.mem_map.1 hu
    rfl
  · have hb : (w.drew.alloc (.cells (bytesRow s (grownCap w s.size 0 e)) e fr)).heap[w.heap.size]? = some (.cells (bytesRow s (grownCap w s.size 0 e)) e fr) := heap_alloc_new w.drew _
    rw [Nat.zero_add, cell_of_row _ _ _ _ _ _ hb]
    rw [← nums_row s (grownCap w s.size 0 e), List.getElem?_take] at hj
    split at hj
    · simpa using hj
    · cases hj

set_option maxRecDepth 100000 in
set_option maxHeartbeats 1600000 in
theorem bl_addString (H : List Nat → Int × Int × Int × Int) (hH : ∀ l w a n cap, n ≤ 1048576 → RY w a n cap l → Calls Try.prog 53 #[.slice a n cap] w (FV w (H4 (H l))))
    (f : F) (K : Nat) (b : List Bool) (s : ByteArray) (hs : s.size ≤ 1048576) (w : World) (h : FB f w K b) (hK : K ≤ 1048576) :
    Calls Try.prog 38 #[f.ptr, .string s] w (NewFB f K (putAll b ((List.range K).map (loc (H (nums s))))) f.ptr w) := by
  have hrun : ∀ wx, (convert 9 40 (.string s)).run Try.prog wx = .ok (.slice (some ⟨wx.heap.size, 0, none⟩) s.size (grownCap wx s.size 0 5))
      (wx.drew.alloc (.cells (bytesRow s (grownCap wx s.size 0 5)) 5 ((bytesRow s (grownCap wx s.size 0 5)).size, (bytesRow s (grownCap wx s.size 0 5)).size + 1))) := fun wx =>
    run_bytes_of_string wx 9 40 5 s Try.underlying9 Try.underlying40 Try.underlying5
  have HA : Hid (∀ fr, Calls Try.prog 37 #[f.ptr, .slice (some ⟨w.heap.size, 0, none⟩) s.size (grownCap w s.size 0 5)] (w.drew.alloc (.cells (bytesRow s (grownCap w s.size 0 5)) 5 fr)) (NewFB f K (putAll b ((List.range K).map (loc (H (nums s))))) f.ptr w)) := Lib.hid (fun fr => by
    have hO : Same w (w.drew.alloc (.cells (bytesRow s (grownCap w s.size 0 5)) 5 fr)) := ((Only.refl _ w).drew).alloc _
    refine (bl_add H hH f K b (nums s) _ s.size _ _ (h.keep hO) (bytes_read w s hs _ fr) hs hK).mono ?_
    rintro e w' ⟨f', he, h1, h2, h3⟩
    exact ⟨f', he, h1, h2, Only.trans (hO.mono (fun _ _ h => h.elim)) h3 (fun _ _ h => h)⟩)
  clear hH h
  unfold F.ptr at *
  go_enter Try.func38, Try.ntmps38
  go_wp2_with fail
  clear hrun
  refine (HA.out _).mono ?_
  rintro e w' hn
  obtain ⟨f', rfl, hr⟩ := hn
  have HR := Lib.hid hr
  clear hr
  go_wp2_with fail
  go_ret
  exact ⟨f', rfl, HR.out⟩

/-- the string of a list of bytes -/
def sOf (l : List Nat) : ByteArray := (l.map (fun n : Nat => (n : Int))).foldl (fun r n => r.push (UInt8.ofNat n.toNat)) ByteArray.empty
theorem sOf_nums (l : List Nat) (h : ∀ x ∈ l, x < 256) : nums (sOf l) = l := by
  have key : ∀ (l : List Nat) (s : ByteArray), (∀ x ∈ l, x < 256) → nums ((l.map (fun n : Nat => (n : Int))).foldl (fun r n => r.push (UInt8.ofNat n.toNat)) s) = nums s ++ l := by
    intro l
    induction l with
    | nil => intro s _; simp
    | cons x xs ih =>
      intro s hx
      rw [List.map_cons, List.foldl_cons, ih _ (fun y hy => hx y (List.mem_cons_of_mem _ hy))]
      have h1 : nums (s.push (UInt8.ofNat (x : Int).toNat)) = nums s ++ [x] := by
        have hlt := hx x (List.mem_cons_self ..)
        show (s.data.push (UInt8.ofNat (x : Int).toNat)).toList.map (fun b => b.toNat) = _
        rw [Array.toList_push, List.map_append, List.map_cons, List.map_nil, Int.toNat_natCast, show (UInt8.ofNat x).toNat = x from by rw [UInt8.toNat_ofNat']; exact Nat.mod_eq_of_lt hlt]
        rfl
      rw [h1, List.append_assoc]; rfl
  have := key l ByteArray.empty h
  rwa [show nums ByteArray.empty = [] from rfl, List.nil_append] at this
theorem run_string (w : World) (a : Option Addr) (n cap : Nat) (l : List Nat) (h : RY w a n cap l) : (convert 40 9 (.slice a n cap)).run Try.prog w = .ok (.string (sOf l)) w := by
  rw [run_convert_bytes_string w 40 9 5 a n cap Try.underlying40 Try.underlying5 Try.underlying9]
  cases a with
  | none =>
    have hc := h.1.nilcap rfl
    have hn := h.1.le
    obtain rfl : l = [] := List.eq_nil_of_length_eq_zero (by rw [h.2]; omega)
    rfl
  | some x =>
    have hl : (By l).length = n := by unfold By; rw [List.length_map, h.2]
    have hld : (loadCells x n).run Try.prog w = .ok (By l).toArray w := by
      have := run_loadCells_list (P := Try.prog) (w := w) x (By l) (fun j v hj => by
        obtain ⟨b, off, e, hb, hc⟩ := h.1.cells (by
          rcases Nat.eq_zero_or_pos n with h0 | h0
          · rw [List.eq_nil_of_length_eq_zero (by rw [hl, h0] : (By l).length = 0)] at hj
            cases hj
          · exact h0)
        cases e
        rw [Addr.add_lit]
        exact hc j v hj)
      rwa [hl] at this
    refine (run_bytesToString (P := Try.prog) w x n cap (l.map (fun n : Nat => (n : Int))) ?_).trans ?_
    · rw [hld]
      congr 2
      unfold By
      rw [List.map_map]
      rfl
    · rfl
end Go.Proofs.Ytpiajkabikbdnaa.bs

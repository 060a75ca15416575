/-
  Slices of numbers: the copy that is made first (ints), Swap, Less.
-/
import Derived.Test.YtpddddjfjmipfaaDoorBase
import Derived.Test.YtpddddjfjmipfaaDoorHeap
import Derived.RegionTactic
import Derived.ChangeAlike
import Derived.Deep.Light
namespace Go.Proofs.YtpddddjfjmipfaaDoor.isl
open Go.RowKit Go.Proofs.YtpddddjfjmipfaaDoor.base Go.Proofs.YtpddddjfjmipfaaDoor.heap
set_option linter.unusedVariables false

theorem slInt : SliceOf Tryd.prog 25 2 1 8 := SliceOf.mk (z := .int .i64 0) Tryd.underlying25 (by kernel_rfl) rfl
theorem slNamed : SliceOf Tryd.prog 61 2 1 8 := SliceOf.mk (z := .int .i64 0) Tryd.underlying61 (by kernel_rfl) rfl

/-- numbers as cells -/
def I (l : List Int) : List Value := l.map (Value.int .i64)
theorem I_one (l : List Int) : ∀ u ∈ I l, u.oneCell' = true := ints_oneCell _ l

theorem I_get (l : List Int) (k : Nat) (hk : k < l.length) : (I l)[k]? = some (.int .i64 (l.getD k 0)) := by simp [I, hk]

/-- a new slice is returned, and nothing that was there has changed -/
def NewSlice (e size n : Nat) (xs : List Value) (w : World) (en : Ending) (w' : World) : Prop :=
  ∃ a cap, en = .returned (.slice a n cap) ∧ Own e size w' a n cap xs ∧ Only (fun _ => False) w w' ∧ (∀ k, At a k → w.heap.size ≤ k)

theorem IsRow.rd {w : World} {a : Option Addr} {len cap : Nat} {zs : List Int} (h : IsRow .i64 w a len cap zs) : Rd 1 w a len cap (I (zs.take len)) := by
  have hle := h.le
  refine ⟨by simp [I, List.length_take]; omega, hle.1, by unfold maxLen; omega, I_one _, fun hp => ?_, fun ha => ?_⟩
  · obtain ⟨b, off, rfl, _, hb, hc⟩ := h.cells hp
    refine ⟨b, off, rfl, hb, fun j v hj => ?_⟩
    unfold I at hj
    rw [List.getElem?_map, List.getElem?_take] at hj
    split at hj
    · have hz : j < zs.length := by omega
      rw [List.getElem?_eq_getElem hz] at hj
      simp at hj
      rw [hc j hz, ← hj]
      simp [hz]
    · simp at hj
  · subst ha
    rcases h with ⟨_, _, hc, _⟩ | ⟨x, hx, _⟩
    · exact hc
    · cases hx

set_option maxHeartbeats 400000 in
theorem ints (a : Option Addr) (n cap : Nat) (xs : List Value) (w : World) (h : Rd 1 w a n cap xs) (hn : n ≤ 2147483647) :
    Calls Tryd.prog 13 #[.slice a n cap] w (NewSlice 2 1 n xs w) := by
  go_enter Tryd.func13, Tryd.ntmps13
  go_wp2_with (at_builtin; refine wpList_append n xs rfl _ _ _ _ rfl slNamed rfl (Own.nil _ _ _) rfl (h.src Tryd.underlying25) (Nat.zero_add n) rfl ?h63 ?hb ?_)
  case h63 => unfold maxLen; omega
  case hb => omega
  intro a' cap' w1 hG
  have HG := Lib.hid hG
  clear hG
  go_wp2
  go_ret
  exact ⟨_, _, rfl, HG.out.own, HG.out.only.mono (fun _ _ f => f), fun k hk => (HG.out.fresh k hk).resolve_left id⟩

set_option maxHeartbeats 400000 in
theorem swap (b n cap : Nat) (l : List Int) (i j : Nat) (w : World) (h : Own 2 1 w (some ⟨b, 0, none⟩) n cap (I l)) (hi : i < n) (hj : j < n) :
    Calls Tryd.prog 78 #[.slice (some ⟨b, 0, none⟩) n cap, .int .i64 (i : Int), .int .i64 (j : Int)] w fun e w' =>
      e = .returned (.tuple #[]) ∧ Own 2 1 w' (some ⟨b, 0, none⟩) n cap (I ((l.set i (l.getD j 0)).set j (l.getD i 0))) ∧ Only (fun k => k = b) w w' := by
  have hbd := h.bound
  have hlen : l.length = n := by simpa [I] using h.len
  have hc := (h.at (by omega))
  obtain ⟨b', he, hb, hcs⟩ := hc
  obtain rfl : b = b' := by simpa using he
  have ci : w.cell? ⟨b, i, none⟩ = some (.int .i64 (l.getD i 0)) := by
    have := hcs i _ (show (I l)[i]? = some (.int .i64 (l.getD i 0)) by simp [I, show i < l.length by omega])
    simpa using this
  have cj : w.cell? ⟨b, j, none⟩ = some (.int .i64 (l.getD j 0)) := by
    have := hcs j _ (show (I l)[j]? = some (.int .i64 (l.getD j 0)) by simp [I, show j < l.length by omega])
    simpa using this
  have fi := h.frozen rfl i
  have fj := h.frozen rfl j
  have hi' : (i : Int) < (n : Int) := by omega
  have hj' : (j : Int) < (n : Int) := by omega
  have hS : ∀ (w' : World), w'.heap = ((w.setCell ⟨b, i, none⟩ (.int .i64 (l.getD j 0))).setCell ⟨b, j, none⟩ (.int .i64 (l.getD i 0))).heap →
      Own 2 1 w' (some ⟨b, 0, none⟩) n cap (I ((l.set i (l.getD j 0)).set j (l.getD i 0))) := fun w' hw => by
    have h2 := (h.set rfl i (.int .i64 (l.getD j 0)) rfl (by omega)).set rfl j (.int .i64 (l.getD i 0)) rfl (by omega)
    unfold I at h2 ⊢
    rw [List.map_set, List.map_set]
    exact ⟨h2.len, h2.le, h2.max, h2.one, by rw [hw]; exact h2.alt⟩
  have HS := Lib.hid hS
  clear h hcs he hS
  generalize l.getD i 0 = x at *
  generalize l.getD j 0 = y at *
  obtain ⟨v', hy⟩ := cell?_setCell_some (w := w) (p := ⟨b, i, none⟩) (x := .int .i64 y) (q := ⟨b, j, none⟩) (v := .int .i64 y) cj
  go_enter Tryd.func78, Tryd.ntmps78
  go_wp2
  go_region
  all_goals go_wp2
  all_goals go_end0
  all_goals exact ⟨rfl, HS.out _ rfl, (((Only.refl (fun k => k = b) w).setCell _ _ (fun _ => rfl)).setCell _ _ (fun _ => rfl)).drew⟩

/-- a cell of numbers that are read -/
theorem Rd.int {w : World} {a : Option Addr} {n cap : Nat} {l : List Int} (h : Rd 1 w a n cap (I l)) (h0 : 0 < n) :
    ∃ b off, a = some ⟨b, off, none⟩ ∧ b < w.heap.size ∧ ∀ i, i < n → w.cell? ⟨b, off + i, none⟩ = some (.int .i64 (l.getD i 0)) := by
  obtain ⟨b, off, rfl, hb, hc⟩ := h.cells h0
  have hlen : l.length = n := by simpa [I] using h.len
  exact ⟨b, off, rfl, hb, fun i hi => hc i _ (by simp [I, show i < l.length by omega])⟩

set_option maxHeartbeats 400000 in
theorem less (a : Option Addr) (n cap : Nat) (l : List Int) (i j : Nat) (w : World) (h : Rd 1 w a n cap (I l)) (hi : i < n) (hj : j < n) :
    Calls Tryd.prog 77 #[.slice a n cap, .int .i64 (i : Int), .int .i64 (j : Int)] w fun e w' =>
      ∃ k, e = .returned (.bool (decide (l.getD i 0 < l.getD j 0))) ∧ w' = w.drewN k := by
  have hbd := h.bound
  obtain ⟨b, off, rfl, hb, hc⟩ := Rd.int h (by omega)
  have ci := hc i hi
  have cj := hc j hj
  have hi' : (i : Int) < (n : Int) := by omega
  have hj' : (j : Int) < (n : Int) := by omega
  clear hc h
  generalize l.getD i 0 = x at *
  generalize l.getD j 0 = y at *
  go_enter Tryd.func77, Tryd.ntmps77
  go_wp2
  go_quiet (fail)
  go_wp2
  go_ret
  exact ⟨_, rfl, rfl⟩

/-- a bool is returned, and nothing that was there has changed -/
def NewBool (x : Bool) (w : World) (en : Ending) (w' : World) : Prop := en = .returned (.bool x) ∧ Only (fun _ => False) w w'

end Go.Proofs.YtpddddjfjmipfaaDoor.isl

/-
  impl's small functions: universe, first, entry; a new trie.
-/
import Derived.Test.YtcjifjfcjimefaaDoorZXfAsk
import Derived.Test.YtcjifjfcjimefaaDoorMB
namespace Go.Proofs.YtcjifjfcjimefaaDoor.xf
open Go.RowKit Go.Proofs.YtcjifjfcjimefaaDoor.base Go.Proofs.YtcjifjfcjimefaaDoor.heap Go.Proofs.YtcjifjfcjimefaaDoor.rows Go.Proofs.YtcjifjfcjimefaaDoor.mapn
set_option linter.unusedVariables false
variable [Inhabited Kd]

/-- a number with so many bits -/
def uni (m : Nat) : Value := if m = 8 then .iface 5 (.int .u8 0) else if m = 16 then .iface 77 (.int .u16 0) else if m = 32 then .iface 99 (.int .u32 0) else .iface 25 (.int .u64 0)
/-- how many bits there may be -/
def Bits (m : Nat) : Prop := m = 8 ∨ m = 16 ∨ m = 32 ∨ m = 64
omit [Inhabited Kd] in
set_option maxRecDepth 100000 in
theorem universe_of (m : Nat) (w : World) (h : Bits m) : Calls Tryd.prog 21 #[.int .i64 (m : Int)] w (SayP (uni m) w) := by
  rcases h with rfl | rfl | rfl | rfl
  · show Calls Tryd.prog 21 #[.int .i64 8] w _
    go_enter Tryd.func21, Tryd.ntmps21
    go_wp2_with fail
    go_ret
    exact ⟨rfl, Only.refl _ _⟩
  · show Calls Tryd.prog 21 #[.int .i64 16] w _
    go_enter Tryd.func21, Tryd.ntmps21
    go_wp2_with fail
    go_ret
    exact ⟨rfl, Only.refl _ _⟩
  · show Calls Tryd.prog 21 #[.int .i64 32] w _
    go_enter Tryd.func21, Tryd.ntmps21
    go_wp2_with fail
    go_ret
    exact ⟨rfl, Only.refl _ _⟩
  · show Calls Tryd.prog 21 #[.int .i64 64] w _
    go_enter Tryd.func21, Tryd.ntmps21
    go_wp2_with fail
    go_ret
    exact ⟨rfl, Only.refl _ _⟩
/-- a new trie -/
def FreshP (m : Nat) (w : World) (e : Ending) (w' : World) : Prop := ∃ tb O, e = .returned (op (some tb)) ∧ Tr w' tb O [] m ∧ Same w w' ∧ ∀ k, O k → w.heap.size ≤ k
theorem NewQ.fresh {m : Nat} (hm : 2 ≤ m) {w w' : World} {e : Ending} (h : NewQ m w e w') (hw : 2 ≤ w.heap.size) : FreshP m w e w' := by
  obtain ⟨tb, lb, root, md, rfl, h1, h2, h3, h4⟩ := h
  refine ⟨tb, fun k => Own (S0 m root) tb md k ∨ k = lb, rfl, ⟨S0 m root, lb, root, md, none, none, rfl, h1, fun k v => ⟨fun h => absurd h List.not_mem_nil, fun h => absurd h.1 (S0_K hm k)⟩, List.Pairwise.nil, fun k h => h, fun k h => ⟨?_, Trie.lt h1 h⟩, fun y h => absurd h List.not_mem_nil⟩, h2, ?_⟩
  · rcases h with h | rfl
    · have := h3 k h; omega
    · omega
  · rintro k (h | rfl)
    · exact h3 k h
    · exact h4
theorem newC (m : Nat) (w : World) (h : Bits m) (hw : 2 ≤ w.heap.size) : Calls Tryd.prog 31 #[uni m] w (FreshP m w) := by
  rcases h with rfl | rfl | rfl | rfl
  · exact (new8 w).mono (fun e w' h => h.fresh (by omega) hw)
  · exact (new16 w).mono (fun e w' h => h.fresh (by omega) hw)
  · exact (new32 w).mono (fun e w' h => h.fresh (by omega) hw)
  · exact (new64 w).mono (fun e w' h => h.fresh (by omega) hw)
/-- a number -/
abbrev uv (k : Nat) : Value := .int .u64 (k : Int)
omit [Inhabited Kd] in
set_option maxRecDepth 100000 in
theorem first_of (w : World) (a : Option Addr) (n cap : Nat) (K : List Nat) (h : RL uv w a n cap K) : Calls Tryd.prog 27 #[.slice a n cap] w (SayP (uv (K.headD 0)) w) := by
  have bd := h.bound
  have hl := h.2
  by_cases h0 : 0 < n
  · obtain ⟨b, off, rfl, hb, hc⟩ := h.at h0
    obtain ⟨k, r, rfl⟩ : ∃ k r, K = k :: r := by
      cases K with
      | nil => simp at hl; omega
      | cons k r => exact ⟨k, r, rfl⟩
    have e0 : w.cell? ⟨b, off + 0, none⟩ = some (.int .u64 (k : Int)) := hc 0 k rfl
    rw [Nat.add_zero] at e0
    show Calls _ _ _ _ (SayP (.int .u64 (k : Int)) w)
    have hn0 : (0 : Int) < (n : Int) := by omega
    have hn1 : (((n : Nat) : Int) == 0) = false := by simp; omega
    clear h hc hl
    go_enter Tryd.func27, Tryd.ntmps27
    go_wp2_with fail
    go_ret
    exact ⟨rfl, Only.refl _ _⟩
  · obtain rfl : n = 0 := by omega
    obtain rfl := List.eq_nil_of_length_eq_zero hl
    clear h hl
    show Calls _ _ _ _ (SayP (.int .u64 0) w)
    go_enter Tryd.func27, Tryd.ntmps27
    go_wp2_with fail
    go_ret
    exact ⟨rfl, Only.refl _ _⟩
/-- an entry of a list of the answers -/
def itc (y : It) : List Value := [.int .u64 (y.1 : Int), .int .i64 y.2]
omit [Inhabited Kd] in
theorem itc_len (y : It) : (itc y).length = 2 := rfl
omit [Inhabited Kd] in
theorem itc_one (x : It) : ∀ u ∈ itc x, u.oneCell' = true := by
  intro u hu
  simp only [itc, List.mem_cons, List.not_mem_nil, or_false] at hu
  rcases hu with rfl | rfl <;> rfl
/-- an answer -/
structure An where
  a : Option Addr
  n : Nat
  cap : Nat
  L : List It
  num : Nat
  yes : Bool
def anv (x : An) : Value := .agg #[.slice x.a x.n x.cap, .int .u64 (x.num : Int), .bool x.yes]
/-- said of entry -/
def EntP (o : Option It) (w : World) (e : Ending) (w' : World) : Prop := ∃ a n cap, e = .returned (.agg #[.slice a n cap, .int .u64 0, .bool false]) ∧ RS itc 2 w' a n cap o.toList ∧ Same w w' ∧ ∀ k, At a k → w.heap.size ≤ k ∧ k < w'.heap.size
end Go.Proofs.YtcjifjfcjimefaaDoor.xf

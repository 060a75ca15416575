/-
  impl's small functions: universe, first, entry; a new trie.
-/
import Derived.Test.YtkplikpncpcjdaaDoorXfAsk
import Derived.Test.YtkplikpncpcjdaaDoorSt
namespace Go.Proofs.YtkplikpncpcjdaaDoor.xf
open Go.RowKit Go.Proofs.YtkplikpncpcjdaaDoor.base Go.Proofs.YtkplikpncpcjdaaDoor.heap Go.Proofs.YtkplikpncpcjdaaDoor.rows Go.Proofs.YtkplikpncpcjdaaDoor.mapn
set_option linter.unusedVariables false

/-- a number with so many bits -/
def uni (m : Nat) : Value := if m = 8 then .iface 5 (.int .u8 0) else if m = 16 then .iface 71 (.int .u16 0) else if m = 32 then .iface 72 (.int .u32 0) else .iface 25 (.int .u64 0)
/-- how many bits there may be -/
def Bits (m : Nat) : Prop := m = 8 ∨ m = 16 ∨ m = 32 ∨ m = 64
set_option maxRecDepth 100000 in
theorem universe_of (m : Nat) (w : World) (h : Bits m) : Calls Tryd.prog 17 #[.int .i64 (m : Int)] w (SayP (uni m) w) := by
  rcases h with rfl | rfl | rfl | rfl
  · show Calls Tryd.prog 17 #[.int .i64 8] w _
    go_enter Tryd.func17, Tryd.ntmps17
    go_wp2_with fail
    go_ret
    exact ⟨rfl, Only.refl _ _⟩
  · show Calls Tryd.prog 17 #[.int .i64 16] w _
    go_enter Tryd.func17, Tryd.ntmps17
    go_wp2_with fail
    go_ret
    exact ⟨rfl, Only.refl _ _⟩
  · show Calls Tryd.prog 17 #[.int .i64 32] w _
    go_enter Tryd.func17, Tryd.ntmps17
    go_wp2_with fail
    go_ret
    exact ⟨rfl, Only.refl _ _⟩
  · show Calls Tryd.prog 17 #[.int .i64 64] w _
    go_enter Tryd.func17, Tryd.ntmps17
    go_wp2_with fail
    go_ret
    exact ⟨rfl, Only.refl _ _⟩
/-- a new trie -/
def FreshP (m : Nat) (w : World) (e : Ending) (w' : World) : Prop := ∃ tb O, e = .returned (op (some tb)) ∧ Tr w' tb O [] m ∧ Same w w' ∧ ∀ k, O k → w.heap.size ≤ k
theorem NewQ.fresh {m : Nat} (hm : 2 ≤ m) {w w' : World} {e : Ending} (h : NewQ m w e w') (hw : 2 ≤ w.heap.size) : FreshP m w e w' := by
  obtain ⟨tb, lb, root, md, rfl, h1, h2, h3, h4⟩ := h
  refine ⟨tb, fun k => Own (S0 m root) tb md k ∨ k = lb, rfl, ⟨S0 m root, lb, root, md, none, none, rfl, h1, fun k v => ⟨fun h => absurd h List.not_mem_nil, fun h => absurd h.1 (S0_K hm k)⟩, List.Pairwise.nil, fun k h => h, fun k h => ⟨?_, Trie.lt h1 h⟩⟩, h2, ?_⟩
  · rcases h with h | rfl
    · have := h3 k h; omega
    · omega
  · rintro k (h | rfl)
    · exact h3 k h
    · exact h4
theorem newC (m : Nat) (w : World) (h : Bits m) (hw : 2 ≤ w.heap.size) : Calls Tryd.prog 16 #[uni m] w (FreshP m w) := by
  rcases h with rfl | rfl | rfl | rfl
  · exact (new8 w).mono (fun e w' h => h.fresh (by omega) hw)
  · exact (new16 w).mono (fun e w' h => h.fresh (by omega) hw)
  · exact (new32 w).mono (fun e w' h => h.fresh (by omega) hw)
  · exact (new64 w).mono (fun e w' h => h.fresh (by omega) hw)
/-- a number -/
abbrev uv (k : Nat) : Value := .int .u64 (k : Int)
set_option maxRecDepth 100000 in
theorem first_of (w : World) (a : Option Addr) (n cap : Nat) (K : List Nat) (h : RL uv w a n cap K) : Calls Tryd.prog 22 #[.slice a n cap] w (SayP (uv (K.headD 0)) w) := by
  have bd := h.bound
  have hl := h.2
  by_cases h0 : 0 < n
  · obtain ⟨b, off, rfl, hb, hc⟩ := h.at h0
    obtain ⟨k, r, rfl⟩ : ∃ k r, K = k :: r := by
      cases K with
      | nil => simp at hl; omega
      | cons k r => exact ⟨k, r, rfl⟩
    have e0 : w.cell? ⟨b, off + 0, none⟩ = some (.int .u64 (k : Int)) := hc 0 k rfl
    rw [Nat.add_zero] at e0
    show Calls _ _ _ _ (SayP (.int .u64 (k : Int)) w)
    have hn0 : (0 : Int) < (n : Int) := by omega
    have hn1 : (((n : Nat) : Int) == 0) = false := by simp; omega
    clear h hc hl
    go_enter Tryd.func22, Tryd.ntmps22
    go_wp2_with fail
    go_ret
    exact ⟨rfl, Only.refl _ _⟩
  · obtain rfl : n = 0 := by omega
    obtain rfl := List.eq_nil_of_length_eq_zero hl
    clear h hl
    show Calls _ _ _ _ (SayP (.int .u64 0) w)
    go_enter Tryd.func22, Tryd.ntmps22
    go_wp2_with fail
    go_ret
    exact ⟨rfl, Only.refl _ _⟩
/-- an entry of a list of the answers -/
def itc (y : It) : List Value := [.int .u64 (y.1 : Int), .int .i64 y.2]
theorem itc_len (y : It) : (itc y).length = 2 := rfl
theorem itc_one (x : It) : ∀ u ∈ itc x, u.oneCell' = true := by
  intro u hu
  simp only [itc, List.mem_cons, List.not_mem_nil, or_false] at hu
  rcases hu with rfl | rfl <;> rfl
/-- an answer -/
structure An where
  a : Option Addr
  n : Nat
  cap : Nat
  L : List It
  num : Nat
  yes : Bool
def anv (x : An) : Value := .agg #[.slice x.a x.n x.cap, .int .u64 (x.num : Int), .bool x.yes]
/-- said of entry -/
def EntP (o : Option It) (w : World) (e : Ending) (w' : World) : Prop := ∃ a n cap, e = .returned (.agg #[.slice a n cap, .int .u64 0, .bool false]) ∧ RS itc 2 w' a n cap o.toList ∧ Same w w' ∧ ∀ k, At a k → w.heap.size ≤ k ∧ k < w'.heap.size
theorem assertI (k : Nat) (v : Int) (w : World) : (Instr.typeAssert (item k v) 20 52 true).run Tryd.prog w = .ok (.tuple #[.agg #[.int .u64 (k : Int), .int .i64 v], .bool true]) w := by
  simp [Instr.typeAssert, run_underlying Tryd.underlying52, Result.andThen]
theorem assertN (w : World) : (Instr.typeAssert .nilIface 20 52 true).run Tryd.prog w = .ok (.tuple #[.agg #[.int .u64 0, .int .i64 0], .bool false]) w := by kernel_rfl
set_option maxRecDepth 100000 in
theorem entryC (w : World) (o : Option It) : Calls Tryd.prog 20 #[ans o] w (EntP o w) := by
  cases o with
  | none =>
    show Calls Tryd.prog 20 #[.nilIface] w _
    have h1 := assertN
    go_enter Tryd.func20, Tryd.ntmps20
    go_wp2_with fail
    generalize hw9 : ((w.alloc (.cells #[.slice none 0 0, .int .u64 0, .bool false] 39)).alloc (.cells #[.int .u64 0, .int .i64 0] 52)) = w9
    have hs : Same w w9 := by rw [← hw9]; exact ((Only.refl _ w).alloc _).alloc _
    have hg : w9.heap[w.heap.size]? = some (.cells #[.slice none 0 0, .int .u64 0, .bool false] 39 (0, 0)) := by rw [← hw9]; exact ((Only.refl (fun _ => False) _).alloc _).obj (heap_alloc_new _ _) id
    have y0 := block_cell (j := 0) hg rfl
    have y1 := block_cell (j := 1) hg rfl
    have y2 := block_cell (j := 2) hg rfl
    refine bodyPost_ret (v := .agg #[.slice none 0 0, .int .u64 0, .bool false]) ?_ rfl ?_
    · simp [results, Tryd.results20, go_sem, y0, y1, y2]
    exact ⟨none, 0, 0, rfl, RS.nil _ _ _, hs, fun k hk => hk.elim⟩
  | some y =>
    obtain ⟨k, v⟩ := y
    show Calls Tryd.prog 20 #[item k v] w _
    have h1 := assertI k v
    go_enter Tryd.func20, Tryd.ntmps20
    go_wp2_with fail
    generalize hw8 : ((w.alloc (.cells #[.slice (some ⟨w.heap.size + 1 + 1, 0, none⟩) 1 1, .int .u64 0, .bool false] 39)).alloc (.cells #[.int .u64 (k : Int), .int .i64 v] 52)) = w8
    have hz : w8.heap.size = w.heap.size + 1 + 1 := by rw [← hw8]; simp
    generalize hw9 : w8.alloc (.cells #[.int .u64 (k : Int), .int .i64 v] 28) = w9
    have hs8 : Same w w8 := by rw [← hw8]; exact ((Only.refl _ w).alloc _).alloc _
    have hs : Same w w9 := by rw [← hw9]; exact hs8.alloc _
    have hg8 : w8.heap[w.heap.size]? = some (.cells #[.slice (some ⟨w.heap.size + 1 + 1, 0, none⟩) 1 1, .int .u64 0, .bool false] 39 (0, 0)) := by rw [← hw8]; exact ((Only.refl (fun _ => False) _).alloc _).obj (heap_alloc_new _ _) id
    have hg : w9.heap[w.heap.size]? = some (.cells #[.slice (some ⟨w.heap.size + 1 + 1, 0, none⟩) 1 1, .int .u64 0, .bool false] 39 (0, 0)) := by rw [← hw9]; exact ((Only.refl (fun _ => False) _).alloc _).obj hg8 id
    have y0 := block_cell (j := 0) hg rfl
    have y1 := block_cell (j := 1) hg rfl
    have y2 := block_cell (j := 2) hg rfl
    refine bodyPost_ret (v := .agg #[.slice (some ⟨w.heap.size + 1 + 1, 0, none⟩) 1 1, .int .u64 0, .bool false]) ?_ rfl ?_
    · simp [results, Tryd.results20, go_sem, y0, y1, y2]
    have hO := Own.made 28 2 w8 #[.int .u64 (k : Int), .int .i64 v] 1 1 (Nat.le_refl _) (by unfold maxLen; omega) rfl (by
      intro u hu
      exact itc_one (k, v) u hu)
    rw [hw9, hz] at hO
    refine ⟨some ⟨w.heap.size + 1 + 1, 0, none⟩, 1, 1, rfl, ⟨hO.rd, rfl⟩, hs, fun k hk => ?_⟩
    have hk' : w.heap.size + 1 + 1 = k := hk
    have hz9 : w9.heap.size = w8.heap.size + 1 := by rw [← hw9]; simp
    omega
end Go.Proofs.YtkplikpncpcjdaaDoor.xf

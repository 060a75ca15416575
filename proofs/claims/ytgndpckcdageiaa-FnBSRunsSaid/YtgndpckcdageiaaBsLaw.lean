/-
  What the walks of the statements on bitsets share: contracts said from a world on of which nothing changes any more; the opening of a parameter of type Bits.
-/
import Derived.Test.YtgndpckcdageiaaBsSpecD
import Derived.Lib.SmallJoins
namespace Go.Proofs.Ytgndpckcdageiaa.bs
open Go.ChangeShapes Go.WideShapes Go.ChangeAt Go.RowKit Go.Proofs.Ytgndpckcdageiaa.base Go.Proofs.Ytgndpckcdageiaa.heap Go.Proofs.Ytgndpckcdageiaa.bit
set_option linter.unusedVariables false

abbrev Same (w w' : World) : Prop := Only (fun _ => False) w w'
theorem Same.trans {w w1 w2 : World} (h : Same w w1) (h' : Same w1 w2) : Same w w2 := Only.trans h h' (fun _ _ f => f)

/-- Bits, from the world w0 on -/
def FBits (w0 : World) (b : List Bool) (e : Ending) (w' : World) : Prop := ∃ a m cap, e = .returned (.agg #[.int .u64 (b.length : Int), .slice a m cap]) ∧ RU w' a m cap (ones b) ∧ Same w0 w'
def FBools (w0 : World) (b : List Bool) (e : Ending) (w' : World) : Prop := ∃ a cap, e = .returned (.slice a b.length cap) ∧ RB w' a b.length cap b ∧ Same w0 w'
def FV (w0 : World) (v : Value) (e : Ending) (w' : World) : Prop := e = .returned v ∧ Same w0 w'

section
variable {P : Program} {f : FuncId} {args : Array Value} {w0 w : World}
theorem fbits {b : List Bool} (hs : Same w0 w) (h : Calls P f args w (RetBits b w)) : Calls P f args w (FBits w0 b) :=
  h.mono fun e w' ⟨a, m, cap, he, hu, hO, _⟩ => ⟨a, m, cap, he, hu, hs.trans hO⟩
theorem fbools {b : List Bool} (hs : Same w0 w) (h : Calls P f args w (RetBools b w)) : Calls P f args w (FBools w0 b) :=
  h.mono fun e w' ⟨a, cap, he, hu, hO, _⟩ => ⟨a, cap, he, hu, hs.trans hO⟩
theorem fv {v : Value} (hs : Same w0 w) (h : Calls P f args w (RetV v w)) : Calls P f args w (FV w0 v) :=
  h.mono fun e w' ⟨he, hO⟩ => ⟨he, hs.trans hO⟩
theorem fquiet {v : Value} (hs : Same w0 w) (h : Calls P f args w fun e w' => e = .returned v ∧ ∃ m, w' = w.drewN m) : Calls P f args w (FV w0 v) :=
  h.mono fun e w' ⟨he, m, hw⟩ => ⟨he, hs.trans (by rw [hw]; exact (Only.refl _ w).drewN m)⟩
theorem fsame {v : Value} (hs : Same w0 w) (h : Calls P f args w fun e w' => e = .returned v ∧ w' = w) : Calls P f args w (FV w0 v) :=
  h.mono fun e w' ⟨he, hw⟩ => ⟨he, by rw [hw]; exact hs⟩
end

/-- some Bits of at most 400 bits, from the world w0 on -/
def FSome (w0 : World) (e : Ending) (w' : World) : Prop := ∃ (b : List Bool) (a : Option Addr) (m cap : Nat), b.length ≤ 400 ∧ e = .returned (.agg #[.int .u64 (b.length : Int), .slice a m cap]) ∧ RU w' a m cap (ones b) ∧ Same w0 w' ∧ ∀ j, At a j → j < w'.heap.size
theorem fsome {n : Nat} {a : Option Addr} {m cap : Nat} {zs : List Int} {w0 w : World} (hs : Same w0 w) (hr : IsRow .u64 w a m cap zs) (hm : m ≤ 2147483647) : Calls Try.prog 5 #[.agg #[.int .u64 (n : Int), .slice a m cap]] w (FSome w0) :=
  (bsBits n a m cap zs w hr hm).mono fun e w' ⟨b, hb, a', m', cap', he, hu, hO, hf⟩ => ⟨b, a', m', cap', by omega, he, hu, hs.trans hO, fun j hj => (hf j hj).2⟩

theorem bsSame_yes (v v' : Value) (b : List Bool) (w0 w : World) (hs : Same w0 w) (h : BV w v b) (h' : BV w v' b) (hn : b.length ≤ 1048576) : Calls Try.prog 11 #[v, v'] w (FV w0 (.bool true)) := by
  have := fv hs (bsSame v v' b b w h h' hn hn)
  rwa [decide_eq_true rfl] at this
theorem BV.mk {w : World} {a : Option Addr} {m cap : Nat} {b : List Bool} (h : RU w a m cap (ones b)) : BV w (.agg #[.int .u64 (b.length : Int), .slice a m cap]) b := ⟨a, m, cap, rfl, h⟩
theorem wrap_nat (i : Nat) (hi : i < 4611686018427387904) : IntKind.u64.wrap (i : Int) = (i : Int) := by rw [IntKind.wrap_u64]; omega
theorem wrap_nat_i (i : Nat) (hi : i < 4611686018427387904) : IntKind.i64.wrap (i : Int) = (i : Int) := by rw [IntKind.wrap_i64]; omega

/-- a parameter of type Bits: a number, and a list of numbers -/
theorem Reads.bits {W : World} {v : Value} (h : Reads Try.prog W 25 v) : ∃ (n : Nat) (a : Option Addr) (m cap : Nat) (zs : List Int), v = .agg #[.int .u64 (n : Int), .slice a m cap] ∧ IsRow .u64 W a m cap zs := by
  obtain ⟨base, H, enc, d, ps, hv, hd⟩ := h
  obtain ⟨v0, v1, y0, y1, k, rfl, rfl, rfl, h0, h1⟩ := Joins.open_agg2 Try.underlying25 (by kernel_rfl) (by kernel_rfl) hv hd
  obtain ⟨n, hv0, rfl, hw⟩ := DataW.trod_int Try.underlying22 h0
  simp at hv0
  subst hv0
  have hn := wf_u64 hw
  obtain ⟨N, rfl⟩ := Int.eq_ofNat_of_zero_le hn.1
  rcases open_ints Try.underlying23 Try.underlying22 (by kernel_rfl) h1 with ⟨hcs, _⟩ | ⟨x, l, c, zs, hcs, _, hl, hm, hz, _, hcell, hwz⟩
  · simp at hcs
    subst hcs
    exact ⟨N, none, 0, 0, [], rfl, .inl ⟨rfl, rfl, rfl, rfl⟩⟩
  · simp at hcs
    subst hcs
    exact ⟨N, some x, l, c, zs, rfl, .inr ⟨x, rfl, hl, hm, by simpa using hz, hcell, hwz⟩⟩

theorem IsRow.keep {k : IntKind} {w w' : World} {a : Option Addr} {len cap : Nat} {zs : List Int} (h : IsRow k w a len cap zs) (ho : Same w w') : IsRow k w' a len cap zs := by
  rcases h with hn | ⟨x, rfl, hl, hm, hz, hc, hw⟩
  · exact .inl hn
  · exact .inr ⟨x, rfl, hl, hm, hz, fun i hi => by
      have h1 := hc i hi
      rw [← h1]
      exact ho.cell (World.block_lt_of_cell? w _ h1) id, hw⟩

theorem boxed {w w' : World} {cs : Array Value} {t : TypeId} (h : Same (w.alloc (.cells cs t)) w') : w'.heap[w.heap.size]? = some (.cells cs t (0, 0)) := h.obj (heap_alloc_new w _) id
theorem same_alloc {w w' : World} {o : Obj} (h : Same (w.alloc o) w') : Same w w' := Same.trans ((Only.refl _ w).alloc _) h
/-- a block that is known whole, further on -/
theorem still {w w' : World} {b : Nat} {cs : Array Value} {t : TypeId} (h : Same w w') (hb : w.heap[b]? = some (.cells cs t (0, 0))) : w'.heap[b]? = some (.cells cs t (0, 0)) := h.obj hb id
/-- two variables of type Bits that the call made -/
structure TwoIn (W : World) (k k' : Nat) (b b' : List Bool) (a a' : Option Addr) (m cap m' cap' : Nat) (wx : World) : Prop where
  ne : k ≠ k'
  le : b.length ≤ 400 ∧ b'.length ≤ 400
  one : wx.heap[k]? = some (.cells #[.int .u64 (b.length : Int), .slice a m cap] 25 (0, 0))
  two : wx.heap[k']? = some (.cells #[.int .u64 (b'.length : Int), .slice a' m' cap'] 25 (0, 0))
  ru : RU wx a m cap (ones b)
  ru' : RU wx a' m' cap' (ones b')
  far : ∀ j, At a j ∨ At a' j → j ≠ k ∧ j ≠ k'
  same : Same W wx
  new : W.heap.size ≤ k ∧ W.heap.size ≤ k'
def TwoVars (W : World) (s s' : Value) (wx : World) : Prop := ∃ k k' b b' a a' m cap m' cap', s = .pointer (some ⟨k, 0, none⟩) ∧ s' = .pointer (some ⟨k', 0, none⟩) ∧ TwoIn W k k' b b' a a' m cap m' cap' wx

theorem heap_alloc_second (w : World) (o o' : Obj) : ((w.alloc o).alloc o').heap[w.heap.size]? = some o := by
  rw [Below.heap_alloc _ _ _ (by simp)]; exact heap_alloc_new _ _

/-- a world with a new block, under a name of its own -/
theorem newBlock (w : World) (cs : Array Value) (t : TypeId) : ∃ W, W = w.alloc (.cells cs t) ∧ Same w W ∧ W.heap[w.heap.size]? = some (.cells cs t (0, 0)) ∧ W.heap.size = w.heap.size + 1 :=
  ⟨_, rfl, (Only.refl _ w).alloc _, heap_alloc_new w _, by simp⟩
end Go.Proofs.Ytgndpckcdageiaa.bs

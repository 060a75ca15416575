/-
  What the proofs of this claim share, part 1 of 2: small laws and walks of the functions that it reaches.
-/
import Derived.Test.YtcjifjfcjimefaaDoorProg
import Derived.WalkKit
import Derived.ProofKit
import Derived.OpenShut
import Derived.Below
import Derived.Deep.QuietTactic
import Derived.BigQuiet
import Derived.Lib.Hide
import Derived.Deep.AppendSrc
import Derived.Deep.Draws
import Derived.Deep.SlicePairs
namespace Go.Proofs.YtcjifjfcjimefaaDoor.base
open Go.ChangeShapes Go.WideShapes Go.ChangeAt Go.RowKit

/-- a slice of integers that came in: it is nil; or it leads to a row of 'cap' cells, the numbers 'zs' (the first 'len' are its elements) -/
def IsRow (k : IntKind) (w : World) (a : Option Addr) (len cap : Nat) (zs : List Int) : Prop :=
  (a = none ∧ len = 0 ∧ cap = 0 ∧ zs = []) ∨
  ∃ x, a = some x ∧ len ≤ cap ∧ cap ≤ maxLen ∧ zs.length = cap ∧ (∀ i, i < zs.length → w.cell? (x.add i) = some (.int k (zs.getD i 0))) ∧ ∀ n ∈ zs, (Lit.int k n).wf = true

/-- where it has an element: its block, its place, its cells -/
theorem IsRow.cells {k : IntKind} {w : World} {a : Option Addr} {len cap : Nat} {zs : List Int} (h : IsRow k w a len cap zs) (h0 : 0 < len) :
    ∃ b off, a = some ⟨b, off, none⟩ ∧ len ≤ zs.length ∧ b < w.heap.size ∧ ∀ i, i < zs.length → w.cell? ⟨b, off + i, none⟩ = some (.int k (zs.getD i 0)) := by
  rcases h with ⟨_, rfl, _, _⟩ | ⟨x, rfl, hl, hm, hz, hc, hw⟩
  · omega
  · obtain ⟨b, off, spot⟩ := x
    have h1 := hc 0 (by omega)
    have hs : spot = none := by simpa [Addr.add] using World.cell?_spot h1
    subst hs
    have h2 : w.cell? ⟨b, off, none⟩ = some (.int k (zs.getD 0 0)) := by simpa [Addr.add] using h1
    exact ⟨b, off, rfl, by omega, World.block_lt_of_cell? w _ h2, fun i hi => by have := hc i hi; rwa [Addr.add_lit] at this⟩

theorem IsRow.le {k : IntKind} {w : World} {a : Option Addr} {len cap : Nat} {zs : List Int} (h : IsRow k w a len cap zs) : len ≤ cap ∧ cap ≤ 9223372036854775807 ∧ len ≤ zs.length := by
  rcases h with ⟨_, rfl, rfl, rfl⟩ | ⟨x, rfl, hl, hm, hz, _, _⟩
  · simp
  · unfold maxLen at hm; omega

theorem IsRow.wf {k : IntKind} {w : World} {a : Option Addr} {len cap : Nat} {zs : List Int} (h : IsRow k w a len cap zs) (h0 : (Lit.int k 0).wf = true) (i : Nat) : (Lit.int k (zs.getD i 0)).wf = true := by
  rcases h with ⟨_, _, _, rfl⟩ | ⟨x, rfl, hl, hm, hz, _, hw⟩
  · simpa using h0
  · by_cases hi : i < zs.length
    · rw [show zs.getD i 0 = zs[i] from by simp [hi]]; exact hw _ (List.getElem_mem hi)
    · rw [show zs.getD i 0 = 0 from by simp [Nat.le_of_not_lt hi]]; exact h0

theorem wf_u8 {n : Int} (h : (Lit.int .u8 n).wf = true) : 0 ≤ n ∧ n < 256 := by
  have : 0 ≤ n ∧ n ≤ 255 := by simpa [Lit.wf, IntKind.min, IntKind.max, IntKind.signed, IntKind.bits] using h
  omega
theorem wf_u16 {n : Int} (h : (Lit.int .u16 n).wf = true) : 0 ≤ n ∧ n < 65536 := by
  have : 0 ≤ n ∧ n ≤ 65535 := by simpa [Lit.wf, IntKind.min, IntKind.max, IntKind.signed, IntKind.bits] using h
  omega
theorem wf_u32 {n : Int} (h : (Lit.int .u32 n).wf = true) : 0 ≤ n ∧ n < 4294967296 := by
  have : 0 ≤ n ∧ n ≤ 4294967295 := by simpa [Lit.wf, IntKind.min, IntKind.max, IntKind.signed, IntKind.bits] using h
  omega
theorem wf_u64 {n : Int} (h : (Lit.int .u64 n).wf = true) : 0 ≤ n ∧ n < 18446744073709551616 := by
  have : 0 ≤ n ∧ n ≤ 18446744073709551615 := by simpa [Lit.wf, IntKind.min, IntKind.max, IntKind.signed, IntKind.bits] using h
  omega
theorem wf_i64 {n : Int} (h : (Lit.int .i64 n).wf = true) : -9223372036854775808 ≤ n ∧ n ≤ 9223372036854775807 := by
  simpa [Lit.wf, IntKind.min, IntKind.max, IntKind.signed, IntKind.bits] using h

theorem ret_int {k : IntKind} {a b : Int} (h : a = b) : Ending.returned (.int k a) = .returned (.int k b) := by rw [h]

theorem below_drewN {B : Nat} {a w : World} (h : Below B a w) (n : Nat) : Below B a (w.drewN n) := ⟨h.os, h.tape, h.output, h.size, h.block⟩

/-- a parameter of type t that can be read in the world W -/
def Reads (P : Program) (W : World) (t : TypeId) (v : Value) : Prop :=
  ∃ (base : Nat) (H : Type) (enc : TypeId × Value → H) (d : DataW H) (ps : List MemPlace), Value.okWide P W .any base t v ∧ DataW.Trod enc P W 0 (fun _ => true) true t v d ps

section reads
variable {P : Program} {W : World} {t e : TypeId} {k : IntKind} {v : Value}
theorem Reads.int (h : Reads P W t v) (ht : P.underlying t = some (.int k)) : ∃ n, v = .int k n ∧ (Lit.int k n).wf = true := by
  obtain ⟨base, H, enc, d, ps, hv, hd⟩ := h
  obtain ⟨n, rfl, _, _, hw⟩ := open_int ht hv hd
  exact ⟨n, rfl, hw⟩
theorem Reads.bool (h : Reads P W t v) (ht : P.underlying t = some .bool) : ∃ b, v = .bool b := by
  obtain ⟨base, H, enc, d, ps, hv, hd⟩ := h
  obtain ⟨b, rfl, _, _⟩ := open_bool ht hv hd
  exact ⟨b, rfl⟩
theorem row_of {H : Type} {enc : TypeId × Value → H} {fuel : Nat} {a : Option Addr} {len cap : Nat} {x : DataW H × List MemPlace} (ht : P.underlying t = some (.slice e)) (he : P.underlying e = some (.int k)) (hc : P.cellsOf e = 1)
    (hf : DataW.trod enc P W 0 (fun _ => true) true fuel t [.slice a len cap] = some x) : ∃ zs, IsRow k W a len cap zs := by
  rcases open_ints ht he hc hf with ⟨hcs, _⟩ | ⟨x, l, c, zs, hcs, _, hl, hm, hz, _, hcell, hwz⟩
  · simp at hcs
    obtain ⟨rfl, rfl, rfl⟩ := hcs
    exact ⟨[], .inl ⟨rfl, rfl, rfl, rfl⟩⟩
  · simp at hcs
    obtain ⟨rfl, rfl, rfl⟩ := hcs
    exact ⟨zs, .inr ⟨_, rfl, hl, hm, by simpa using hz, hcell, hwz⟩⟩
theorem Reads.ints (h : Reads P W t v) (ht : P.underlying t = some (.slice e)) (he : P.underlying e = some (.int k)) (hc : P.cellsOf e = 1) : ∃ a len cap zs, v = .slice a len cap ∧ IsRow k W a len cap zs := by
  obtain ⟨base, H, enc, d, ps, hv, fuel, hf⟩ := h
  obtain ⟨a, len, cap, rfl⟩ := okWide_slice ht hv
  obtain ⟨zs, hz⟩ := row_of ht he hc (by simpa [Value.cells] using hf)
  exact ⟨a, len, cap, zs, rfl, hz⟩
end reads
end Go.Proofs.YtcjifjfcjimefaaDoor.base
namespace Go.Proofs.YtcjifjfcjimefaaDoor.heap
open Go.RowKit

/-- the cells xs stand one behind the other from place off of block b on -/
def Cells (w : World) (b off : Nat) (xs : List Value) : Prop := ∀ j v, xs[j]? = some v → w.cell? ⟨b, off + j, none⟩ = some v

/-- blocks outside S are as they were -/
structure Only (S : Nat → Prop) (w w' : World) : Prop where
  os : w'.os = w.os
  tape : w'.tape = w.tape
  output : w'.output = w.output
  size : w.heap.size ≤ w'.heap.size
  block : ∀ k, k < w.heap.size → ¬ S k → w'.heap[k]? = w.heap[k]?

/-- k is the block that a leads to -/
def At : Option Addr → Nat → Prop
  | some ad, k => ad.block = k
  | none, _ => False

section only
variable {S T : Nat → Prop} {w w' w'' : World}
theorem Only.refl (S : Nat → Prop) (w : World) : Only S w w := ⟨rfl, rfl, rfl, Nat.le_refl _, fun _ _ _ => rfl⟩
theorem Only.mono (h : Only S w w') (hs : ∀ k, k < w.heap.size → S k → T k) : Only T w w' := ⟨h.os, h.tape, h.output, h.size, fun k hk hn => h.block k hk fun s => hn (hs k hk s)⟩
/-- the second step may change what the first one may, and what is new -/
theorem Only.trans (h : Only S w w') (h' : Only T w' w'') (hs : ∀ k, k < w.heap.size → T k → S k) : Only S w w'' :=
  ⟨h'.os.trans h.os, h'.tape.trans h.tape, h'.output.trans h.output, Nat.le_trans h.size h'.size, fun k hk hn =>
    (h'.block k (Nat.lt_of_lt_of_le hk h.size) fun t => hn (hs k hk t)).trans (h.block k hk hn)⟩
theorem Only.drew (h : Only S w w') : Only S w w'.drew := ⟨h.os, h.tape, h.output, h.size, h.block⟩
theorem Only.drewN (h : Only S w w') (n : Nat) : Only S w (w'.drewN n) := ⟨h.os, h.tape, h.output, h.size, h.block⟩
theorem Only.undrewN {n : Nat} (h : Only S (w.drewN n) w') : Only S w w' := ⟨h.os, h.tape, h.output, h.size, h.block⟩
theorem Only.undrew (h : Only S w.drew w') : Only S w w' := ⟨h.os, h.tape, h.output, h.size, h.block⟩
theorem Only.alloc (h : Only S w w') (o : Obj) : Only S w (w'.alloc o) :=
  h.trans (T := fun _ => False) ⟨rfl, rfl, rfl, by simp, fun k hk _ => Below.heap_alloc _ _ _ hk⟩ (fun _ _ f => f.elim)
theorem Only.setCell (h : Only S w w') (p : Addr) (u : Value) (hp : p.block < w.heap.size → S p.block) : Only S w (w'.setCell p u) :=
  h.trans (T := fun k => k = p.block) ⟨rfl, rfl, rfl, by simp [World.setCell], fun k _ hn => Below.heap_setCell _ _ _ _ hn⟩ (fun k hk e => by subst e; exact hp hk)
theorem Only.grown {row : Option Nat} (h : Only S w w') (hg : w'.grownBy w'' row) (hr : ∀ k, k < w.heap.size → row = some k → S k) : Only S w w'' :=
  h.trans (T := fun k => row = some k) ⟨hg.os, hg.tape, hg.output, hg.size, fun k hk hn => hg.block k hk fun e => hn e.symm⟩ hr
theorem Only.of_below (h : Below w.heap.size w w') : Only (fun _ => False) w w' := ⟨h.os, h.tape, h.output, h.size, fun k hk _ => h.block k hk⟩
theorem Only.below {B : Nat} (h : Only S w w') (hB : B ≤ w.heap.size) (hs : ∀ k, k < B → ¬ S k) : Below B w w' := ⟨h.os, h.tape, h.output, h.size, fun k hk => h.block k (by omega) (hs k hk)⟩
theorem Only.cell (h : Only S w w') {p : Addr} (hp : p.block < w.heap.size) (hn : ¬ S p.block) : w'.cell? p = w.cell? p := World.cell?_of_block (w := w) (h.block p.block hp hn)
theorem Only.frozen (h : Only S w w') {p : Addr} (hp : p.block < w.heap.size) (hn : ¬ S p.block) : w'.frozen? p = w.frozen? p := World.frozen?_of_block (w := w) (h.block p.block hp hn)
theorem lt_of_heap {b : Nat} {o : Obj} (h : w.heap[b]? = some o) : b < w.heap.size := (Array.getElem?_eq_some_iff.1 h).1
theorem Only.obj (h : Only S w w') {b : Nat} {o : Obj} (hb : w.heap[b]? = some o) (hn : ¬ S b) : w'.heap[b]? = some o := (h.block b (lt_of_heap hb) hn).trans hb
end only

section cells
variable {w w' : World} {b off : Nat} {xs : List Value}
theorem Cells.nil (w : World) (b off : Nat) : Cells w b off [] := fun j v h => by simp at h
theorem Cells.at (h : Cells w b off xs) (j : Nat) (hj : j < xs.length) : w.cell? ⟨b, off + j, none⟩ = some xs[j] := h j _ (List.getElem?_eq_getElem hj)
theorem Cells.keep {S : Nat → Prop} (h : Cells w b off xs) (hb : b < w.heap.size) (ho : Only S w w') (hn : ¬ S b) : Cells w' b off xs :=
  fun j v hj => (ho.cell (p := ⟨b, off + j, none⟩) hb hn).trans (h j v hj)
theorem Cells.drop (h : Cells w b off xs) (n : Nat) : Cells w b (off + n) (xs.drop n) := fun j v hj => by
  rw [List.getElem?_drop] at hj
  have := h (n + j) v hj
  rwa [← Nat.add_assoc] at this
theorem Cells.take (h : Cells w b off xs) (n : Nat) : Cells w b off (xs.take n) := fun j v hj => by
  rw [List.getElem?_take] at hj
  split at hj
  · exact h j v hj
  · cases hj
theorem Cells.drewN (h : Cells w b off xs) (n : Nat) : Cells (w.drewN n) b off xs := h
end cells

/-- a slice that can be read: n elements of 'size' cells each, the cells xs -/
structure Rd (size : Nat) (w : World) (a : Option Addr) (n cap : Nat) (xs : List Value) : Prop where
  len : xs.length = n * size
  le : n ≤ cap
  max : cap ≤ maxLen
  one : ∀ u ∈ xs, u.oneCell' = true
  cells : 0 < n → ∃ b off, a = some ⟨b, off, none⟩ ∧ b < w.heap.size ∧ Cells w b off xs
  nilcap : a = none → cap = 0

section rd
variable {P : Program} {size : Nat} {w w' : World} {a : Option Addr} {n cap : Nat} {xs : List Value}
theorem Rd.keep {S : Nat → Prop} (h : Rd size w a n cap xs) (ho : Only S w w') (hn : ∀ k, At a k → ¬ S k) : Rd size w' a n cap xs :=
  ⟨h.len, h.le, h.max, h.one, fun hp => by
    obtain ⟨b, off, rfl, hb, hc⟩ := h.cells hp
    exact ⟨b, off, rfl, Nat.lt_of_lt_of_le hb ho.size, hc.keep hb ho (hn b rfl)⟩, h.nilcap⟩
theorem Rd.drewN (h : Rd size w a n cap xs) (k : Nat) : Rd size (w.drewN k) a n cap xs := ⟨h.len, h.le, h.max, h.one, h.cells, h.nilcap⟩
theorem Rd.of_heap (h : Rd size w a n cap xs) (he : w'.heap = w.heap) : Rd size w' a n cap xs :=
  ⟨h.len, h.le, h.max, h.one, fun hp => by
    obtain ⟨b, off, ha, hb, hc⟩ := h.cells hp
    exact ⟨b, off, ha, by rw [he]; exact hb, fun j v hj => by rw [← hc j v hj]; unfold World.cell?; rw [he]⟩, h.nilcap⟩
theorem Rd.drew (h : Rd size w a n cap xs) : Rd size w.drew a n cap xs := ⟨h.len, h.le, h.max, h.one, h.cells, h.nilcap⟩
theorem Rd.nil (w : World) (size : Nat) : Rd size w none 0 0 [] := ⟨by simp, Nat.le_refl _, by simp [maxLen], by simp, by omega, fun _ => rfl⟩
theorem Rd.bound (h : Rd size w a n cap xs) : n ≤ cap ∧ cap ≤ 9223372036854775807 := by have := h.max; unfold maxLen at this; exact ⟨h.le, by omega⟩
theorem Rd.src {tx e' : TypeId} (h : Rd size w a n cap xs) (hk : P.underlying tx = some (.slice e')) : Src P size tx (.slice a n cap) n xs w := by
  rcases Nat.eq_zero_or_pos n with rfl | hp
  · obtain rfl : xs = [] := List.eq_nil_of_length_eq_zero (by simpa using h.len)
    cases a with
    | none => exact Src.ofNil w hk cap
    | some ad => exact Src.ofSlice w hk ad 0 cap [] (by simp) (by simp) (by simp)
  · obtain ⟨b, off, rfl, hb, hc⟩ := h.cells hp
    exact Src.ofSlice w hk _ n cap xs h.len (fun j u hu => by rw [Addr.add_lit]; exact hc j u hu) h.one
end rd

/-- a slice of the call's own: nil, or at the head of a row of its own -/
structure Own (e size : Nat) (w : World) (a : Option Addr) (n cap : Nat) (xs : List Value) : Prop where
  len : xs.length = n * size
  le : n ≤ cap
  max : cap ≤ maxLen
  one : ∀ u ∈ xs, u.oneCell' = true
  alt : (a = none ∧ cap = 0) ∨ ∃ b cur, a = some ⟨b, 0, none⟩ ∧ w.heap[b]? = some (.cells cur e (0, 0)) ∧ cur.size = cap * size ∧ cur.toList.take (n * size) = xs

theorem setCell_heap {w : World} {b : Nat} {cur : Array Value} {e : TypeId} {fr : Nat × Nat} (hb : w.heap[b]? = some (.cells cur e fr)) (j : Nat) (v : Value) :
    (w.setCell ⟨b, j, none⟩ v).heap[b]? = some (.cells (cur.setIfInBounds j v) e fr) := by
  simp [World.setCell, Array.getElem?_modify, hb]

theorem heap_alloc_new' (w : World) (o : Obj) (k : Nat) (hk : k = w.heap.size) : (w.alloc o).heap[k]? = some o := by subst hk; exact heap_alloc_new w o

/-- what a whole row yields to an append -/
theorem Src.row {P : Program} {w : World} {size : Nat} {tx e' : TypeId} (hk : P.underlying tx = some (.slice e')) {g : Nat} {cs : Array Value} {t : TypeId} {fr : Nat × Nat} (hg : w.heap[g]? = some (.cells cs t fr)) (n c : Nat)
    (hl : cs.size = n * size) (h1 : ∀ u ∈ cs.toList, u.oneCell' = true) : Src P size tx (.slice (some ⟨g, 0, none⟩) n c) n cs.toList w :=
  Src.ofSlice w hk _ n c cs.toList (by rw [Array.length_toList]; exact hl) (fun j u hu => by
    rw [Addr.add_lit, Nat.zero_add, cell_of_row w g j cs t fr hg]
    simpa using hu) h1
/-- the cells of a block that is known whole -/
theorem block_cell {w : World} {b j : Nat} {cs : Array Value} {t : TypeId} {fr : Nat × Nat} {v : Value} (hb : w.heap[b]? = some (.cells cs t fr)) (hv : cs[j]? = some v) : w.cell? ⟨b, j, none⟩ = some v := by
  rw [cell_of_row w b j cs t fr hb]; exact hv
theorem block_free {w : World} {b j : Nat} {cs : Array Value} {t : TypeId} (hb : w.heap[b]? = some (.cells cs t (0, 0))) : w.frozen? ⟨b, j, none⟩ = false := by simp [World.frozen?, hb]

section own
variable {P : Program} {e size : Nat} {w w' : World} {a : Option Addr} {n cap : Nat} {xs : List Value}
theorem Own.nil (e size : Nat) (w : World) : Own e size w none 0 0 [] := ⟨by simp, Nat.le_refl _, by simp [maxLen], by simp, .inl ⟨rfl, rfl⟩⟩
theorem Own.lt (h : Own e size w a n cap xs) : ∀ k, At a k → k < w.heap.size := by
  intro k hk
  rcases h.alt with ⟨rfl, _⟩ | ⟨b, cur, rfl, hb, _⟩
  · exact hk.elim
  · obtain rfl : b = k := hk
    exact lt_of_heap hb
theorem Own.keep {S : Nat → Prop} (h : Own e size w a n cap xs) (ho : Only S w w') (hn : ∀ k, At a k → ¬ S k) : Own e size w' a n cap xs :=
  ⟨h.len, h.le, h.max, h.one, by
    rcases h.alt with hh | ⟨b, cur, rfl, hb, r⟩
    · exact .inl hh
    · exact .inr ⟨b, cur, rfl, ho.obj hb (hn b rfl), r⟩⟩
theorem Own.rd (h : Own e size w a n cap xs) : Rd size w a n cap xs :=
  ⟨h.len, h.le, h.max, h.one, fun hp => by
    rcases h.alt with ⟨rfl, hc⟩ | ⟨b, cur, rfl, hb, hs, ht⟩
    · have := h.le; omega
    · refine ⟨b, 0, rfl, lt_of_heap hb, fun j v hj => ?_⟩
      rw [Nat.zero_add, cell_of_row w b j cur e (0, 0) hb]
      rw [← ht, List.getElem?_take] at hj
      split at hj
      · simpa using hj
      · exact absurd hj (by simp), fun ha => by
    rcases h.alt with ⟨_, hc⟩ | ⟨b, cur, rfl, _⟩
    · exact hc
    · exact absurd ha (by simp)⟩
theorem Own.of_heap (h : Own e size w a n cap xs) (he : w'.heap = w.heap) : Own e size w' a n cap xs := ⟨h.len, h.le, h.max, h.one, by rw [he]; exact h.alt⟩
theorem Own.drew (h : Own e size w a n cap xs) : Own e size w.drew a n cap xs := ⟨h.len, h.le, h.max, h.one, h.alt⟩
theorem Own.drewN (h : Own e size w a n cap xs) (k : Nat) : Own e size (w.drewN k) a n cap xs := ⟨h.len, h.le, h.max, h.one, h.alt⟩
theorem Own.bound (h : Own e size w a n cap xs) : n ≤ cap ∧ cap ≤ 9223372036854775807 := h.rd.bound
/-- a block of the call's own that was just made -/
theorem Own.made (e size : Nat) (w : World) (cur : Array Value) (n cap : Nat) (hle : n ≤ cap) (hm : cap ≤ maxLen) (hs : cur.size = cap * size) (h1 : ∀ u ∈ cur.toList.take (n * size), u.oneCell' = true) :
    Own e size (w.alloc (.cells cur e)) (some ⟨w.heap.size, 0, none⟩) n cap (cur.toList.take (n * size)) :=
  ⟨by rw [List.length_take, Array.length_toList, hs]; exact Nat.min_eq_left (Nat.mul_le_mul_right _ hle), hle, hm, h1, .inr ⟨w.heap.size, cur, rfl, heap_alloc_new w _, hs, rfl⟩⟩
/-- an element's cell is written -/
theorem Own.set (h : Own e size w a n cap xs) {b : Nat} (ha : a = some ⟨b, 0, none⟩) (j : Nat) (v : Value) (hv : v.oneCell' = true) (_ : j < n * size) : Own e size (w.setCell ⟨b, j, none⟩ v) a n cap (xs.set j v) := by
  subst ha
  refine ⟨by rw [List.length_set]; exact h.len, h.le, h.max, ?_, ?_⟩
  · intro u hu
    rcases List.mem_or_eq_of_mem_set hu with hu | rfl
    · exact h.one u hu
    · exact hv
  · rcases h.alt with ⟨hc, _⟩ | ⟨b', cur, hb', hb, hs, ht⟩
    · cases hc
    · cases hb'
      refine .inr ⟨b, cur.setIfInBounds j v, rfl, ?_, by simpa using hs, ?_⟩
      · exact setCell_heap hb j v
      · rw [Array.toList_setIfInBounds, List.take_set, ht]
theorem Own.frozen (h : Own e size w a n cap xs) {b : Nat} (ha : a = some ⟨b, 0, none⟩) (j : Nat) : w.frozen? ⟨b, j, none⟩ = false := by
  subst ha
  rcases h.alt with ⟨hc, _⟩ | ⟨b', cur, hb', hb, hs, ht⟩
  · cases hc
  · cases hb'
    simp [World.frozen?, hb]
theorem Own.at (h : Own e size w a n cap xs) (hp : 0 < n) : ∃ b, a = some ⟨b, 0, none⟩ ∧ b < w.heap.size ∧ Cells w b 0 xs := by
  obtain ⟨b, off, rfl, hb, hc⟩ := h.rd.cells hp
  rcases h.alt with ⟨hc, _⟩ | ⟨b', cur, hb', _⟩
  · cases hc
  · cases hb'
    exact ⟨b, rfl, hb, hc⟩

/-- append onto a slice of the call's own: in place, or into a new row -/
theorem run_append {t tx ty : TypeId} {i : TypeInfo} {z : Value} {bytes m : Nat} {x : Value} {news : List Value} (ht : P.underlying t = some (.slice e)) (hi : P.info? e = some i) (hz : i.zero = some z)
    (hsize : i.size = size) (hby : i.bytes = bytes) (hzs : z.cells.size = size) (hown : Own e size w a n cap xs) (hs : Src P size tx x m news w) (h63 : n + m ≤ maxLen) (hbytes : (n + m) * bytes ≤ 140737488355328) :
    ∃ a' cap' w', (Builtin.append_ #[t, tx] ty #[.slice a n cap, x]).run P w = .ok (.slice a' (n + m) cap') w' ∧ Own e size w' a' (n + m) cap' (xs ++ news) ∧ Only (At a) w w' ∧
      (∀ k, At a' k → At a k ∨ w.heap.size ≤ k) ∧ (a' = none → a = none ∧ m = 0) ∧ (m = 0 → a' = a ∧ cap' = cap) := by
  subst hsize
  subst hby
  have hone : ∀ u ∈ xs ++ news, u.oneCell' = true := fun u hu => (List.mem_append.1 hu).elim (hown.one u) (hs.one u)
  have hlen : (xs ++ news).length = (n + m) * i.size := by rw [List.length_append, hown.len, hs.newsLen, Nat.add_mul]
  have hsmall : n + m ≤ 9223372036854775807 := by simp only [maxLen] at h63; omega
  by_cases hroom : n + m ≤ cap
  · rcases hown.alt with ⟨rfl, rfl⟩ | ⟨b, cur, rfl, hb, hcs, htk⟩
    · obtain rfl : n = 0 := by omega
      obtain rfl : m = 0 := by omega
      have hn : news = [] := List.eq_nil_of_length_eq_zero (by simpa using hs.newsLen)
      have hx : xs = [] := List.eq_nil_of_length_eq_zero (by simpa using hown.len)
      subst hn; subst hx
      refine ⟨none, 0, w, ?_, Own.nil e i.size w, Only.refl _ _, fun _ h => h.elim, fun _ => ⟨rfl, rfl⟩, fun _ => ⟨rfl, rfl⟩⟩
      rcases hs.kind with ⟨e', hk⟩ | hk <;> simp [Builtin.append_, run_underlying ht, run_underlying hk, sizeOf, typeInfo, hi, hs.len, hs.cells]
    · have hsz : n * i.size + news.length ≤ cur.size := by rw [hs.newsLen, hcs, ← Nat.add_mul]; exact Nat.mul_le_mul_right _ hroom
      have hst := run_storeCells_at P b (n * i.size) e news 0 cur w hb (by simpa using hsz) hs.one
      simp only [Nat.add_zero] at hst
      have hr : (Builtin.append_ #[t, tx] ty #[.slice (some ⟨b, 0, none⟩) n cap, x]).run P w = .ok (.slice (some ⟨b, 0, none⟩) (n + m) cap) (w.setRow b (cur.toList.take (n * i.size) ++ news ++ cur.toList.drop (n * i.size + news.length)).toArray) := by
        rcases hs.kind with ⟨e', hk⟩ | hk <;> simp [Builtin.append_, run_underlying ht, run_underlying hk, sizeOf, typeInfo, hi, hs.len, hroom, hs.cells, Addr.add_lit, hst]
      refine ⟨some ⟨b, 0, none⟩, cap, _, hr, ⟨hlen, hroom, hown.max, hone, .inr ⟨b, _, rfl, setRow_heap w b cur _ e _ hb, ?_, ?_⟩⟩,
        ⟨rfl, rfl, rfl, by simp, fun k _ hk => setRow_other w b k _ (fun e => hk e.symm)⟩, fun _ h => .inl h, (fun h => by cases h), fun _ => ⟨rfl, rfl⟩⟩
      · simp only [List.size_toArray, List.length_append, List.length_take, List.length_drop, Array.length_toList]
        omega
      · simp only [htk, ← hlen]
        exact List.take_left
  · have hold : (Builtin.firstCells i.size n (.slice a n cap)).run P w.drew = .ok xs.toArray w.drew := by
      cases a with
      | none =>
        have h0 : n = 0 := by have := hown.le; rcases hown.alt with ⟨_, hc⟩ | ⟨b, cur, hb, _⟩; omega; cases hb
        subst h0
        have hx : xs = [] := List.eq_nil_of_length_eq_zero (by simpa using hown.len)
        subst hx
        exact run_firstCells_none _ _ _ _ _
      | some ad =>
        rcases hown.alt with ⟨hc, _⟩ | ⟨b, cur, hb', hb, hcs, htk⟩
        · cases hc
        · cases hb'
          refine run_firstCells_some (P := P) w.drew i.size n _ n cap xs hown.len fun j v hj => ?_
          rw [Addr.add_lit]
          rcases Nat.eq_zero_or_pos n with rfl | hp
          · have : xs = [] := List.eq_nil_of_length_eq_zero (by simpa using hown.len)
            subst this; simp at hj
          · obtain ⟨b', off', he, _, hc⟩ := hown.rd.cells hp
            cases he
            exact hc j v hj
    have hge := grownCap_ge w (n + m) cap e
    have hcm : grownCap w (n + m) cap e ≤ maxLen := grownCap_le_maxLen w (n + m) cap e h63
    have hr := run_append_grow_src (P := P) w t tx ty e i z ht hi hz a n cap xs hold x m news hs (by omega) (by omega) (growslice_fits (by omega) hbytes)
    have htake : ((xs ++ news).toArray ++ Builtin.zeroCells z.cells (grownCap w (n + m) cap e - (n + m))).toList.take ((n + m) * i.size) = xs ++ news := by
      rw [Array.toList_append]
      simp only [← hlen]
      exact List.take_left
    refine ⟨_, _, _, hr, ?_, ((Only.refl _ w).drew).alloc _, fun k hk => .inr (by have : w.heap.size = k := hk; omega), (fun h => by cases h), fun h => by have := hown.le; omega⟩
    have hm := Own.made e i.size w.drew ((xs ++ news).toArray ++ Builtin.zeroCells z.cells (grownCap w (n + m) cap e - (n + m))) (n + m) (grownCap w (n + m) cap e) hge hcm (by
      simp only [Array.size_append, List.size_toArray, size_zeroCells, hzs, hlen, ← Nat.add_mul]
      congr 1
      omega) (by rw [htake]; exact hone)
    rw [htake] at hm
    exact hm
/-- what the table says of a slice's type and of its element's -/
def SliceOf (P : Program) (t e size bytes : Nat) : Prop :=
  P.underlying t = some (.slice e) ∧ ∃ i z, P.info? e = some i ∧ i.zero = some z ∧ i.size = size ∧ i.bytes = bytes ∧ z.cells.size = size
theorem SliceOf.mk {P : Program} {t e size bytes : Nat} {z : Value} (h : P.underlying t = some (.slice e)) (h' : (P.info? e).map (fun i => (i.zero, i.size, i.bytes)) = some (some z, size, bytes)) (hz : z.cells.size = size) : SliceOf P t e size bytes := by
  obtain ⟨i, hi, h1, h2, h3⟩ := info_parts h'
  exact ⟨h, i, z, hi, h1, h2, h3, hz⟩

/-- what an append leaves: the slice that it hands back, and what may have changed -/
structure Grew (e size : Nat) (w w' : World) (a a' : Option Addr) (m N cap cap' : Nat) (XS : List Value) : Prop where
  own : Own e size w' a' N cap' XS
  only : Only (At a) w w'
  fresh : ∀ k, At a' k → At a k ∨ w.heap.size ≤ k
  nil : a' = none → a = none ∧ m = 0
  same : m = 0 → a' = a ∧ cap' = cap

/-- append: N, XS: the length and the cells behind it, in the caller's own spelling -/
theorem wpList_append {ops : Array Oper} {rest : List Oper} {o : Oper} {fr : Act} {Q : Exit → Act → World → Prop} (N : Nat) (XS : List Value) (hg : o.guard = none) (s x : Operand) (t tx : TypeId)
    (hop : o.op = .call { callee := .builtin .append, args := #[s, x], argTypes := #[t, tx] }) {bytes : Nat} (hT : SliceOf P t e size bytes)
    (hs : fr.eval s = .slice a n cap) (hown : Own e size w a n cap xs) {v : Value} {m : Nat} {news : List Value} (hx : fr.eval x = v) (hsrc : Src P size tx v m news w)
    (hN : n + m = N) (hX : xs ++ news = XS) (h63 : N ≤ maxLen) (hbytes : N * bytes ≤ 140737488355328)
    (hK : ∀ a' cap' w', Grew e size w w' a a' m N cap cap' XS →
      wpList P ops Q rest (fr.put o.dst (.slice a' N cap')) w') : wpList P ops Q (o :: rest) fr w := by
  subst hN
  subst hX
  obtain ⟨ht, i, z, hi, hz, hsize, hby, hzs⟩ := hT
  refine wpList_plain hg fun K hK' => ?_
  obtain ⟨a', cap', w', hr, h1, h2, h3, h4, h5⟩ := run_append (P := P) (ty := o.type) ht hi hz hsize hby hzs hown hsrc h63 hbytes
  unfold Oper.wp execOp
  simp only [hop, resolve, invoke, builtin, Sem.run_bind, Sem.run_pure, Result.andThen_ok, List.map_toArray, List.map_cons, List.map_nil, hs, hx, hr]
  exact hK' _ _ (hK a' cap' w' ⟨h1, h2, h3, h4, h5⟩)
/-- copy into a row that is known whole, of elements of one cell -/
theorem wpList_copy {ops : Array Oper} {rest : List Oper} {o : Oper} {fr : Act} {Q : Exit → Act → World → Prop} (k : Nat) (hg : o.guard = none) (d s : Operand) (dT sT : TypeId)
    (hop : o.op = .call { callee := .builtin .copy, args := #[d, s], argTypes := #[dT, sT] }) {bytes : Nat} (hT : SliceOf P dT e 1 bytes)
    {g off dl dc : Nat} (hd : fr.eval d = .slice (some ⟨g, off, none⟩) dl dc) {cur : Array Value} (hb : w.heap[g]? = some (.cells cur e (0, 0)))
    {sa : Option Addr} {sl sc : Nat} (hs : fr.eval s = .slice sa sl sc) {ys : List Value} (hr : Rd 1 w sa sl sc ys) (hk : k = min sl dl) (hfit : off + dl ≤ cur.size)
    (hK : ∀ w', w'.heap[g]? = some (.cells (cur.toList.take off ++ ys.take k ++ cur.toList.drop (off + k)).toArray e (0, 0)) → Only (fun j => j = g) w w' →
      wpList P ops Q rest (fr.put o.dst (.int .i64 (k : Int))) w') : wpList P ops Q (o :: rest) fr w := by
  obtain ⟨ht, i, z, hi, hz, hsize, hby, hzs⟩ := hT
  have hlen : (ys.take k).length = k := by rw [List.length_take, hr.len, hk, Nat.mul_one]; omega
  have hf : (Builtin.firstCells 1 k (.slice sa sl sc)).run P w = .ok (ys.take k).toArray w := by
    rcases Nat.eq_zero_or_pos k with h0 | hp
    · rw [h0]
      cases sa with
      | none => exact run_firstCells_none _ _ _ _ _
      | some ad => exact run_firstCells_some (P := P) w 1 0 ad sl sc [] rfl (fun j v hj => by simp at hj)
    · obtain ⟨b, of, rfl, hbl, hc⟩ := hr.cells (by omega)
      refine run_firstCells_some (P := P) w 1 k _ sl sc (ys.take k) (by rw [hlen]; omega) (fun j v hj => ?_)
      rw [Addr.add_lit]
      exact (hc.take k) j v hj
  have hst := run_storeCells_at P g off e (ys.take k) 0 cur w hb (by rw [hlen]; omega) (fun u hu => hr.one u (List.mem_of_mem_take hu))
  simp only [Nat.add_zero, hlen] at hst
  have hrun : (Builtin.copy_ #[dT, sT] o.type #[.slice (some ⟨g, off, none⟩) dl dc, .slice sa sl sc]).run P w = .ok (.int .i64 (k : Int)) (w.setRow g (cur.toList.take off ++ ys.take k ++ cur.toList.drop (off + k)).toArray) := by
    have hmin : Nat.min sl dl = k := hk.symm
    simp [Builtin.copy_, run_underlying ht, sizeOf, typeInfo, hi, hsize, Builtin.lenOf, hmin, hf, hst, goInt]
  refine wpList_plain hg fun K hK' => ?_
  unfold Oper.wp execOp
  simp only [hop, resolve, invoke, builtin, Sem.run_bind, Sem.run_pure, Result.andThen_ok, List.map_toArray, List.map_cons, List.map_nil, hs, hd, hrun]
  exact hK' _ _ (hK _ (setRow_heap w g cur _ e _ hb) ⟨rfl, rfl, rfl, by simp, fun j _ hj => setRow_other w g j _ hj⟩)

/-- make([]T, k): the very world behind it -/
theorem make_eq {t : Nat} {z : Value} {bytes : Nat} (kl kc : IntKind) (ht : P.underlying t = some (.slice e)) (h' : (P.info? e).map (fun i => (i.zero, i.size, i.bytes)) = some (some z, size, bytes)) (k : Nat)
    (hb : bytes * k ≤ 281474976710656) (hk : k ≤ 9223372036854775807) (w : World) :
    (Instr.makeSlice t (.int kl (k : Int)) (.int kc (k : Int))).run P w = .ok (.slice (some ⟨w.heap.size, 0, none⟩) k k) (w.alloc (.cells (madeCells z.cells (k * size)) e)) := by
  obtain ⟨i, hi, h1, h2, h3⟩ := info_parts h'
  have h := run_make (P := P) w t e i z ht hi h1 kl kc (k : Int) (k : Int) (by omega) (Int.le_refl _) (by rw [h3]; have : ((bytes * k : Nat) : Int) = (bytes : Int) * (k : Int) := Int.natCast_mul _ _; omega) (by omega)
  rw [h2, Int.toNat_natCast] at h
  exact h
theorem made_one (z : Value) (hz : z.cells = #[z]) (k : Nat) : (madeCells z.cells (k * 1)).toList = List.replicate k z := by
  unfold madeCells
  rw [hz]
  apply List.ext_getElem?
  intro i
  simp only [Array.toList_map, Array.toList_range, List.getElem?_map, List.getElem?_replicate, Nat.mul_one]
  by_cases h : i < k
  · rw [List.getElem?_range h]; simp [h, Nat.mod_one]
  · rw [List.getElem?_eq_none (by simpa using Nat.le_of_not_lt h)]; simp [h]
/-- a row that is known whole is owned -/
theorem Own.of_block {b : Nat} {cur : Array Value} (hb : w.heap[b]? = some (.cells cur e (0, 0))) (k cap : Nat) (hk : k ≤ cap) (hm : cap ≤ maxLen) (hs : cur.size = cap * size) (h1 : ∀ u ∈ cur.toList.take (k * size), u.oneCell' = true) :
    Own e size w (some ⟨b, 0, none⟩) k cap (cur.toList.take (k * size)) :=
  ⟨by rw [List.length_take, Array.length_toList, hs]; exact Nat.min_eq_left (Nat.mul_le_mul_right _ hk), hk, hm, h1, .inr ⟨b, cur, rfl, hb, hs, rfl⟩⟩
end own
end Go.Proofs.YtcjifjfcjimefaaDoor.heap
namespace Go.Proofs.YtcjifjfcjimefaaDoor.rows
open Go.RowKit Go.Proofs.YtcjifjfcjimefaaDoor.heap
set_option linter.unusedVariables false

/-- nothing that was there has changed -/
abbrev Same (w w' : World) : Prop := Only (fun _ => False) w w'
theorem Same.trans {w w' w'' : World} (h : Same w w') (h' : Same w' w'') : Same w w'' := Only.trans h h' (fun _ _ f => f)

/-- an int -/
abbrev iv (n : Int) : Value := .int .i64 n
/-- a bool -/
abbrev bv (b : Bool) : Value := .bool b
section
variable {α : Type} {f : α → Value} {w w' : World} {a : Option Addr} {n cap : Nat} {l : List α}
/-- a slice whose elements are 'f x', x of the list l -/
def RL (f : α → Value) (w : World) (a : Option Addr) (n cap : Nat) (l : List α) : Prop := Rd 1 w a n cap (l.map f) ∧ l.length = n
/-- such a slice of the call's own -/
def OL (e : Nat) (f : α → Value) (w : World) (a : Option Addr) (n cap : Nat) (l : List α) : Prop := Own e 1 w a n cap (l.map f) ∧ l.length = n
theorem RL.keep {S : Nat → Prop} (h : RL f w a n cap l) (ho : Only S w w') (hn : ∀ k, At a k → ¬ S k) : RL f w' a n cap l := ⟨h.1.keep ho hn, h.2⟩
theorem RL.still (h : RL f w a n cap l) (ho : Same w w') : RL f w' a n cap l := h.keep ho (fun _ _ => id)
theorem RL.nil (f : α → Value) (w : World) : RL f w none 0 0 [] := ⟨Rd.nil w 1, rfl⟩
theorem RL.bound (h : RL f w a n cap l) : n ≤ cap ∧ cap ≤ 9223372036854775807 := h.1.bound
theorem RL.at (h : RL f w a n cap l) (h0 : 0 < n) : ∃ b off, a = some ⟨b, off, none⟩ ∧ b < w.heap.size ∧ ∀ i x, l[i]? = some x → w.cell? ⟨b, off + i, none⟩ = some (f x) := by
  obtain ⟨b, off, ha, hb, hc⟩ := h.1.cells h0
  exact ⟨b, off, ha, hb, fun i x hx => hc i _ (by rw [List.getElem?_map, hx]; rfl)⟩
theorem RL.get (h : RL f w a n cap l) {k : Nat} (hk : k < n) : ∃ x, l[k]? = some x := ⟨l[k]'(by rw [h.2]; exact hk), List.getElem?_eq_getElem _⟩
theorem OL.rl {e : Nat} (h : OL e f w a n cap l) : RL f w a n cap l := ⟨h.1.rd, h.2⟩
theorem OL.keep {e : Nat} {S : Nat → Prop} (h : OL e f w a n cap l) (ho : Only S w w') (hn : ∀ k, At a k → ¬ S k) : OL e f w' a n cap l := ⟨h.1.keep ho hn, h.2⟩
theorem OL.still {e : Nat} (h : OL e f w a n cap l) (ho : Same w w') : OL e f w' a n cap l := h.keep ho (fun _ _ => id)
theorem OL.nil (e : Nat) (f : α → Value) (w : World) : OL e f w none 0 0 [] := ⟨Own.nil e 1 w, rfl⟩
theorem OL.bound {e : Nat} (h : OL e f w a n cap l) : n ≤ cap ∧ cap ≤ 9223372036854775807 := h.1.bound
end

/-- a slice that is new is handed back -/
def NewL {α : Type} (e : Nat) (f : α → Value) (l : List α) (w : World) (en : Ending) (w' : World) : Prop :=
  ∃ a cap, en = .returned (.slice a l.length cap) ∧ OL e f w' a l.length cap l ∧ Same w w' ∧ ∀ k, At a k → w.heap.size ≤ k
/-- a value is handed back, nothing that was there has changed -/
def FV (w : World) (v : Value) (en : Ending) (w' : World) : Prop := en = .returned v ∧ Same w w'
theorem fv {P : Program} {f : FuncId} {args : Array Value} {w0 w : World} {v : Value} (hs : Same w0 w) (h : Calls P f args w (FV w v)) : Calls P f args w (FV w0 v) :=
  h.mono fun e w' ⟨he, hO⟩ => ⟨he, hs.trans hO⟩

theorem take_snoc {α : Type} (l : List α) (k : Nat) (s : α) (h : l[k]? = some s) : l.take (k + 1) = l.take k ++ [s] := by
  rw [List.take_add_one, h]; rfl
theorem new_only {w w' w'' : World} {S : Nat → Prop} (h : Same w w') (h' : Only S w' w'') (hs : ∀ k, S k → w.heap.size ≤ k) : Same w w'' :=
  Only.trans h h' (fun k hk s => absurd (hs k s) (by omega))
theorem heap_still {w w' : World} {b : Nat} {o : Obj} (h : Same w w') (hb : w.heap[b]? = some o) : w'.heap[b]? = some o := h.obj hb id
end Go.Proofs.YtcjifjfcjimefaaDoor.rows
namespace Go.Proofs.YtcjifjfcjimefaaDoor.mapn
open Go.RowKit Go.ChangeMaps

/-- a key -/
def uk (n : Nat) : Value := .int .u64 (n : Int)
theorem uk_inj {n m : Nat} (h : uk n = uk m) : n = m := by
  simp [uk] at h
  omega
/-- block b is a map that holds what f says -/
def MapN (w : World) (b : Nat) (f : Nat → Option Value) : Prop := ∃ es clock, w.heap[b]? = some (.map es clock) ∧ MapKept.Stamped es clock ∧ (∀ x ∈ es.toList, ∃ n, x.key = uk n) ∧ ∀ n v, f n = some v ↔ ∃ x ∈ es.toList, x.key = uk n ∧ x.val = v
section
variable {P : Program} {K : TypeId} {w w' : World} {b : Nat} {f : Nat → Option Value}
theorem MapN.made (w : World) : MapN (w.alloc (.map #[] 0)) w.heap.size (fun _ => none) := ⟨#[], 0, (MapKept.heap_alloc w _).1, MapKept.stamped_empty 0, by simp, by simp⟩
theorem MapN.lt (h : MapN w b f) : b < w.heap.size := by
  obtain ⟨es, clock, hb, _⟩ := h
  exact (Array.getElem?_eq_some_iff.1 hb).1
theorem MapN.of_heap (h : MapN w b f) (he : w'.heap[b]? = w.heap[b]?) : MapN w' b f := by
  obtain ⟨es, clock, hb, r⟩ := h
  exact ⟨es, clock, by rw [he]; exact hb, r⟩
theorem isKey (n : Nat) : MapKept.IsKey (.int .u64) (uk n) := rfl
theorem MapN.look {t e : TypeId} {z : Value} (h : MapN w b f) (hK : P.underlying K = some (.int .u64)) (ht : P.underlying t = some (.map K e)) (hz : (zeroValue e).run P w = .ok z w) (n : Nat) (c : Bool) :
    (Instr.lookup t (.map (some b)) (uk n) c).run P w = .ok (if c then .tuple #[(f n).getD z, .bool (f n).isSome] else (f n).getD z) w := by
  obtain ⟨es, clock, hb, hs, hk, hf⟩ := h
  have h1 : ∀ e, (Instr.checkKey e 10000 K (uk n)).run P w = .ok () w := fun e => MapKept.run_checkKey hK (isKey n) e 9999
  have hks : ∀ x ∈ es.toList, MapKept.IsKey (.int .u64) x.key := fun x hx => by
    obtain ⟨m, hm⟩ := hk x hx
    rw [hm]; exact isKey m
  rcases MapKept.findNow_spec (isKey n) es.toList 0 hks with ⟨h2, h3⟩ | ⟨j, e', h2, h3, h4⟩
  · have hfn : f n = none := by
      cases hv : f n with
      | none => rfl
      | some v =>
        obtain ⟨x, hx, hxk, _⟩ := (hf n v).1 hv
        exact absurd hxk (h3 x hx)
    rw [hfn]
    cases c <;> simp [Instr.lookup, run_underlying ht, MapKept.run_getObj_map hb, h1, MapKept.run_findKey hK h2, hz, Result.andThen]
  · have hfn : f n = some e'.val := (hf n _).2 ⟨e', List.mem_of_getElem? h3, h4, rfl⟩
    rw [hfn]
    cases c <;> simp [Instr.lookup, run_underlying ht, MapKept.run_getObj_map hb, h1, MapKept.run_findKey hK h2, Result.andThen]
/-- what a store under a new key does -/
theorem MapN.update {t e : TypeId} (h : MapN w b f) (hK : P.underlying K = some (.int .u64)) (ht : P.underlying t = some (.map K e)) (n : Nat) (v : Value) (hn : f n = none) :
    ∃ w', (Instr.mapUpdate t (.map (some b)) (uk n) v).run P w = .ok () w' ∧ MapN w' b (fun k => if k = n then some v else f k) ∧ w.grownBy w' (some b) ∧ w'.heap.size = w.heap.size := by
  obtain ⟨es, clock, hb, hs, hk, hf⟩ := h
  have h1 : ∀ e, (Instr.checkKey e 10000 K (uk n)).run P w = .ok () w := fun e => MapKept.run_checkKey hK (isKey n) e 9999
  have hks : ∀ x ∈ es.toList, MapKept.IsKey (.int .u64) x.key := fun x hx => by
    obtain ⟨m, hm⟩ := hk x hx
    rw [hm]; exact isKey m
  rcases MapKept.findNow_spec (isKey n) es.toList 0 hks with ⟨h2, h3⟩ | ⟨j, e', h2, h3, h4⟩
  · refine ⟨setBlock w b (.map (es.push { key := uk n, val := v, born := clock }) (clock + 1)), ?_, ⟨_, _, ChangeMaps.heap_setBlock_same hb _, MapKept.stamped_push hs h3, ?_, ?_⟩, ⟨rfl, rfl, rfl, by simp [setBlock], fun i _ hi => ChangeMaps.heap_setBlock_other hb _ (fun e => hi (by rw [e]))⟩, by simp [setBlock]⟩
    · simp [Instr.mapUpdate, run_underlying ht, MapKept.run_getObj_map hb, h1, MapKept.run_findKey hK h2, MapKept.run_setObj_map _ hb, Result.andThen, setBlock]
    · intro x hx
      simp only [Array.toList_push, List.mem_append, List.mem_singleton] at hx
      rcases hx with hx | rfl
      · exact hk x hx
      · exact ⟨n, rfl⟩
    · intro k u
      simp only [Array.toList_push, List.mem_append, List.mem_singleton]
      by_cases hkn : k = n
      · subst hkn
        rw [if_pos rfl]
        constructor
        · intro hu
          cases hu
          exact ⟨_, .inr rfl, rfl, rfl⟩
        · rintro ⟨x, hx | rfl, h5, h6⟩
          · exact absurd h5 (h3 x hx)
          · rw [← h6]
      · rw [if_neg hkn, hf k u]
        constructor
        · rintro ⟨x, hx, h5, h6⟩
          exact ⟨x, .inl hx, h5, h6⟩
        · rintro ⟨x, hx | rfl, h5, h6⟩
          · exact ⟨x, hx, h5, h6⟩
          · exact absurd (uk_inj h5).symm hkn
  · have hfn : f n = some e'.val := (hf n _).2 ⟨e', List.mem_of_getElem? h3, h4, rfl⟩
    rw [hn] at hfn
    cases hfn
end
end Go.Proofs.YtcjifjfcjimefaaDoor.mapn
namespace Go.Proofs.YtcjifjfcjimefaaDoor.rows
open Go.RowKit Go.Proofs.YtcjifjfcjimefaaDoor.heap
set_option linter.unusedVariables false

section
variable {α : Type} {c : α → List Value} {K : Nat}
theorem flat_len (hc : ∀ x, (c x).length = K) : ∀ l : List α, (l.flatMap c).length = l.length * K
  | [] => by simp
  | x :: l => by rw [List.flatMap_cons, List.length_append, hc, flat_len hc l, List.length_cons, Nat.add_mul]; omega
theorem flat_get (hc : ∀ x, (c x).length = K) : ∀ (l : List α) (i j : Nat) (x : α) (v : Value), l[i]? = some x → (c x)[j]? = some v → (l.flatMap c)[i * K + j]? = some v
  | [], i, j, x, v, h, _ => by simp at h
  | y :: l, 0, j, x, v, h, hv => by
    simp at h; subst h
    have hj : j < (c y).length := (List.getElem?_eq_some_iff.1 hv).1
    rw [List.flatMap_cons, Nat.zero_mul, Nat.zero_add, List.getElem?_append_left hj]
    exact hv
  | y :: l, i + 1, j, x, v, h, hv => by
    have := flat_get hc l i j x v (by simpa using h) hv
    rw [List.flatMap_cons, List.getElem?_append_right (by rw [hc, Nat.add_mul]; omega), hc]
    rw [show (i + 1) * K + j - K = i * K + j by rw [Nat.add_mul]; omega]
    exact this
theorem flat_one (h1 : ∀ x, ∀ u ∈ c x, u.oneCell' = true) (l : List α) : ∀ u ∈ l.flatMap c, u.oneCell' = true := fun u hu => by
  obtain ⟨x, _, hx⟩ := List.mem_flatMap.1 hu
  exact h1 x u hx
theorem flat_snoc (l : List α) (x : α) : (l ++ [x]).flatMap c = l.flatMap c ++ c x := by simp

variable {w w' : World} {a : Option Addr} {n cap e : Nat} {l : List α}
/-- a slice of structs that is read -/
def RS (c : α → List Value) (K : Nat) (w : World) (a : Option Addr) (n cap : Nat) (l : List α) : Prop := Rd K w a n cap (l.flatMap c) ∧ l.length = n
/-- such a slice of the call's own -/
def OS (e : Nat) (c : α → List Value) (K : Nat) (w : World) (a : Option Addr) (n cap : Nat) (l : List α) : Prop := Own e K w a n cap (l.flatMap c) ∧ l.length = n
theorem RS.keep {S : Nat → Prop} (h : RS c K w a n cap l) (ho : Only S w w') (hn : ∀ k, At a k → ¬ S k) : RS c K w' a n cap l := ⟨h.1.keep ho hn, h.2⟩
theorem RS.still (h : RS c K w a n cap l) (ho : Same w w') : RS c K w' a n cap l := h.keep ho (fun _ _ => id)
theorem RS.nil (c : α → List Value) (K : Nat) (w : World) : RS c K w none 0 0 [] := ⟨Rd.nil w K, rfl⟩
theorem RS.bound (h : RS c K w a n cap l) : n ≤ cap ∧ cap ≤ 9223372036854775807 := h.1.bound
theorem RS.at (hc : ∀ x, (c x).length = K) (h : RS c K w a n cap l) (h0 : 0 < n) :
    ∃ b off, a = some ⟨b, off, none⟩ ∧ b < w.heap.size ∧ ∀ i x, l[i]? = some x → ∀ j v, (c x)[j]? = some v → w.cell? ⟨b, off + i * K + j, none⟩ = some v := by
  obtain ⟨b, off, ha, hb, hcs⟩ := h.1.cells h0
  exact ⟨b, off, ha, hb, fun i x hx j v hv => by
    have := hcs _ _ (flat_get hc l i j x v hx hv)
    rwa [← Nat.add_assoc] at this⟩
theorem RS.get (h : RS c K w a n cap l) {k : Nat} (hk : k < n) : ∃ x, l[k]? = some x := ⟨l[k]'(by rw [h.2]; exact hk), List.getElem?_eq_getElem _⟩
theorem OS.rs (h : OS e c K w a n cap l) : RS c K w a n cap l := ⟨h.1.rd, h.2⟩
theorem OS.keep {S : Nat → Prop} (h : OS e c K w a n cap l) (ho : Only S w w') (hn : ∀ k, At a k → ¬ S k) : OS e c K w' a n cap l := ⟨h.1.keep ho hn, h.2⟩
theorem OS.still (h : OS e c K w a n cap l) (ho : Same w w') : OS e c K w' a n cap l := h.keep ho (fun _ _ => id)
theorem OS.nil (e : Nat) (c : α → List Value) (K : Nat) (w : World) : OS e c K w none 0 0 [] := ⟨Own.nil e K w, rfl⟩
theorem OS.bound (h : OS e c K w a n cap l) : n ≤ cap ∧ cap ≤ 9223372036854775807 := h.1.bound
end
theorem step_app {P : Program} {e size : TypeId} {w : World} {a0 : Option Addr} {n cap : Nat} {xs : List Value} {ops : Array Oper} {o : Oper} {fr : Act} {K : Act → World → Prop} {Q : Exit → Act → World → Prop} {E : Prop} (N : Nat) (XS : List Value) (hg : o.guard = none) (s x : Operand) (t tx : TypeId)
    (hop : o.op = .call { callee := .builtin .append, args := #[s, x], argTypes := #[t, tx] }) {bytes : Nat} (hT : SliceOf P t e size bytes)
    (hs : fr.eval s = .slice a0 n cap) (hown : Own e size w a0 n cap xs) {v : Value} {m : Nat} {news : List Value} (hx : fr.eval x = v) (hsrc : Src P size tx v m news w)
    (hN : n + m = N) (hX : xs ++ news = XS) (h63 : N ≤ maxLen) (hbytes : N * bytes ≤ 140737488355328)
    (hK : ∀ a' cap' w', Grew e size w w' a0 a' m N cap cap' XS → K (fr.put o.dst (.slice a' N cap')) w') :
    if Region.wanted o (yielded ops fr.tmps) = true then Oper.wp P o fr w K Q else E := by
  have hw : Region.wanted o (yielded ops fr.tmps) = true := by simp [Region.wanted, hg]
  rw [if_pos hw]
  subst hN
  subst hX
  obtain ⟨ht, i, z, hi, hz, hsize, hby, hzs⟩ := hT
  obtain ⟨a', cap', w', hr, h1, h2, h3, h4, h5⟩ := run_append (P := P) (ty := o.type) ht hi hz hsize hby hzs hown hsrc h63 hbytes
  unfold Oper.wp execOp
  simp only [hop, resolve, invoke, builtin, Sem.run_bind, Sem.run_pure, Result.andThen_ok, List.map_toArray, List.map_cons, List.map_nil, hs, hx, hr]
  exact hK _ _ _ ⟨h1, h2, h3, h4, h5⟩
end Go.Proofs.YtcjifjfcjimefaaDoor.rows
namespace Go.Proofs.YtcjifjfcjimefaaDoor.heap
open Go.RowKit
section
variable {P : Program} {e size : Nat} {w w' : World} {a : Option Addr} {n cap : Nat} {xs : List Value}
theorem run_append_full {t tx ty : TypeId} {i : TypeInfo} {z : Value} {bytes m : Nat} {x : Value} {news : List Value} (ht : P.underlying t = some (.slice e)) (hi : P.info? e = some i) (hz : i.zero = some z)
    (hsize : i.size = size) (hby : i.bytes = bytes) (hzs : z.cells.size = size) (hrd : Rd size w a n n xs) (hm : 0 < m) (hs : Src P size tx x m news w) (h63 : n + m ≤ maxLen) (hbytes : (n + m) * bytes ≤ 140737488355328) :
    ∃ a' cap' w', (Builtin.append_ #[t, tx] ty #[.slice a n n, x]).run P w = .ok (.slice a' (n + m) cap') w' ∧ Own e size w' a' (n + m) cap' (xs ++ news) ∧ Only (fun _ => False) w w' ∧ ∀ k, At a' k → w.heap.size ≤ k := by
  subst hsize
  subst hby
  have hone : ∀ u ∈ xs ++ news, u.oneCell' = true := fun u hu => (List.mem_append.1 hu).elim (hrd.one u) (hs.one u)
  have hlen : (xs ++ news).length = (n + m) * i.size := by rw [List.length_append, hrd.len, hs.newsLen, Nat.add_mul]
  have hsmall : n + m ≤ 9223372036854775807 := by simp only [maxLen] at h63; omega
  have hold : (Builtin.firstCells i.size n (.slice a n n)).run P w.drew = .ok xs.toArray w.drew := by
    cases a with
    | none =>
      have h0 : n = 0 := hrd.nilcap rfl
      subst h0
      have hx : xs = [] := List.eq_nil_of_length_eq_zero (by simpa using hrd.len)
      subst hx
      exact run_firstCells_none _ _ _ _ _
    | some ad =>
      rcases Nat.eq_zero_or_pos n with rfl | hp
      · refine run_firstCells_some (P := P) w.drew i.size 0 _ 0 0 xs hrd.len fun j v hj => ?_
        have : xs = [] := List.eq_nil_of_length_eq_zero (by simpa using hrd.len)
        subst this; simp at hj
      · obtain ⟨b', off', he, _, hc⟩ := hrd.cells hp
        cases he
        refine run_firstCells_some (P := P) w.drew i.size n _ n n xs hrd.len fun j v hj => ?_
        rw [Addr.add_lit]
        exact hc j v hj
  have hge := grownCap_ge w (n + m) n e
  have hcm : grownCap w (n + m) n e ≤ maxLen := grownCap_le_maxLen w (n + m) n e h63
  have hr := run_append_grow_src (P := P) w t tx ty e i z ht hi hz a n n xs hold x m news hs (by omega) (by omega) (growslice_fits (by omega) hbytes)
  have htake : ((xs ++ news).toArray ++ Builtin.zeroCells z.cells (grownCap w (n + m) n e - (n + m))).toList.take ((n + m) * i.size) = xs ++ news := by
    rw [Array.toList_append]
    simp only [← hlen]
    exact List.take_left
  refine ⟨_, _, _, hr, ?_, ((Only.refl _ w).drew).alloc _, fun k hk => by have : w.heap.size = k := hk; omega⟩
  have hmm := Own.made e i.size w.drew ((xs ++ news).toArray ++ Builtin.zeroCells z.cells (grownCap w (n + m) n e - (n + m))) (n + m) (grownCap w (n + m) n e) hge hcm (by
    simp only [Array.size_append, List.size_toArray, size_zeroCells, hzs, hlen, ← Nat.add_mul]
    congr 1
    omega) (by rw [htake]; exact hone)
  rw [htake] at hmm
  exact hmm

structure Full (e size : Nat) (w w' : World) (a' : Option Addr) (N cap' : Nat) (XS : List Value) : Prop where
  own : Own e size w' a' N cap' XS
  only : Only (fun _ => False) w w'
  fresh : ∀ k, At a' k → w.heap.size ≤ k

theorem step_append_full {ops : Array Oper} {o : Oper} {fr : Act} {K : Act → World → Prop} {Q : Exit → Act → World → Prop} {E : Prop} (N : Nat) (XS : List Value) (hg : o.guard = none) (s x : Operand) (t tx : TypeId)
    (hop : o.op = .call { callee := .builtin .append, args := #[s, x], argTypes := #[t, tx] }) {bytes : Nat} (hT : SliceOf P t e size bytes)
    (hs : fr.eval s = .slice a n n) (hrd : Rd size w a n n xs) {v : Value} {m : Nat} {news : List Value} (hx : fr.eval x = v) (hsrc : Src P size tx v m news w) (hm : 0 < m)
    (hN : n + m = N) (hX : xs ++ news = XS) (h63 : N ≤ maxLen) (hbytes : N * bytes ≤ 140737488355328)
    (hK : ∀ a' cap' w', Full e size w w' a' N cap' XS → K (fr.put o.dst (.slice a' N cap')) w') :
    if Region.wanted o (yielded ops fr.tmps) = true then Oper.wp P o fr w K Q else E := by
  have hw : Region.wanted o (yielded ops fr.tmps) = true := by simp [Region.wanted, hg]
  rw [if_pos hw]
  subst hN
  subst hX
  obtain ⟨ht, i, z, hi, hz, hsize, hby, hzs⟩ := hT
  obtain ⟨a', cap', w', hr, h1, h2, h3⟩ := run_append_full (P := P) (ty := o.type) ht hi hz hsize hby hzs hrd hm hsrc h63 hbytes
  unfold Oper.wp execOp
  simp only [hop, resolve, invoke, builtin, Sem.run_bind, Sem.run_pure, Result.andThen_ok, List.map_toArray, List.map_cons, List.map_nil, hs, hx, hr]
  exact hK _ _ _ ⟨h1, h2, h3⟩
theorem Rd.cut (h : Rd size w a n cap xs) : Rd size w a n n xs := ⟨h.len, Nat.le_refl _, Nat.le_trans h.le h.max, h.one, h.cells, fun e => by have := h.nilcap e; have := h.le; omega⟩
end
end Go.Proofs.YtcjifjfcjimefaaDoor.heap
namespace Go.Proofs.YtcjifjfcjimefaaDoor.heap
open Go.RowKit Go.Proofs.YtcjifjfcjimefaaDoor.rows
section
variable {P : Program} {e size : Nat} {w w' : World} {a : Option Addr} {n cap : Nat} {xs : List Value}
theorem Rd.take (h : Rd size w a n cap xs) {k c : Nat} (hk : k ≤ n) (hc : k ≤ c) (hc2 : c ≤ cap) : Rd size w a k c (xs.take (k * size)) :=
  ⟨by rw [List.length_take, h.len]; exact Nat.min_eq_left (Nat.mul_le_mul_right _ hk), hc, Nat.le_trans hc2 h.max, fun u hu => h.one u (List.mem_of_mem_take hu), fun h0 => by
    obtain ⟨b, off, ha, hb, hcs⟩ := h.cells (by omega)
    exact ⟨b, off, ha, hb, hcs.take _⟩, fun e => by have := h.nilcap e; omega⟩
theorem Rd.drop {b off : Nat} (h : Rd size w (some ⟨b, off, none⟩) n cap xs) {k : Nat} (hk : k ≤ n) : Rd size w (some ⟨b, off + k * size, none⟩) (n - k) (cap - k) (xs.drop (k * size)) :=
  ⟨by rw [List.length_drop, h.len, Nat.sub_mul], by have := h.le; omega, by have := h.max; omega, fun u hu => h.one u (List.mem_of_mem_drop hu), fun h0 => by
    obtain ⟨b', off', ha, hb, hcs⟩ := h.cells (by omega)
    cases ha
    exact ⟨_, _, rfl, hb, hcs.drop _⟩, fun e => by cases e⟩
theorem flatMap_take {α : Type} {c : α → List Value} {K : Nat} (hc : ∀ x, (c x).length = K) : ∀ (l : List α) (k : Nat), (l.take k).flatMap c = (l.flatMap c).take (k * K)
  | [], k => by simp
  | x :: l, 0 => by simp
  | x :: l, k + 1 => by
    rw [List.take_succ_cons, List.flatMap_cons, List.flatMap_cons, flatMap_take hc l k, Nat.add_mul, Nat.one_mul, Nat.add_comm, ← hc x, List.take_length_add_append]
theorem flatMap_drop {α : Type} {c : α → List Value} {K : Nat} (hc : ∀ x, (c x).length = K) : ∀ (l : List α) (k : Nat), (l.drop k).flatMap c = (l.flatMap c).drop (k * K)
  | [], k => by simp
  | x :: l, 0 => by simp
  | x :: l, k + 1 => by
    rw [List.drop_succ_cons, List.flatMap_cons, flatMap_drop hc l k, Nat.add_mul, Nat.one_mul, Nat.add_comm, ← hc x, List.drop_length_add_append]
/-- what such an append leaves -/
structure App (size : Nat) (w w' : World) (a' : Option Addr) (N cap' : Nat) (XS : List Value) : Prop where
  rd : Rd size w' a' N cap' XS
  same : Same w w'
theorem run_append_any {t tx ty : TypeId} {i : TypeInfo} {z : Value} {bytes m : Nat} {x : Value} {news : List Value} (ht : P.underlying t = some (.slice e)) (hi : P.info? e = some i) (hz : i.zero = some z)
    (hsize : i.size = size) (hby : i.bytes = bytes) (hzs : z.cells.size = size) (hrd : Rd size w a n n xs) (hs : Src P size tx x m news w) (h63 : n + m ≤ maxLen) (hbytes : (n + m) * bytes ≤ 140737488355328) :
    ∃ a' cap' w', (Builtin.append_ #[t, tx] ty #[.slice a n n, x]).run P w = .ok (.slice a' (n + m) cap') w' ∧ App size w w' a' (n + m) cap' (xs ++ news) := by
  rcases Nat.eq_zero_or_pos m with rfl | hm
  · have hn : news = [] := List.eq_nil_of_length_eq_zero (by simpa using hs.newsLen)
    subst hn
    refine ⟨a, n, w, ?_, ⟨by rw [List.append_nil]; exact hrd, Only.refl _ _⟩⟩
    subst hsize
    rcases hs.kind with ⟨e', hk⟩ | hk <;> cases a <;> simp [Builtin.append_, run_underlying ht, run_underlying hk, sizeOf, typeInfo, hi, hs.len, hs.cells, storeCells]
  · obtain ⟨a', cap', w', hr, h1, h2, _⟩ := run_append_full (P := P) (ty := ty) ht hi hz hsize hby hzs hrd hm hs h63 hbytes
    exact ⟨a', cap', w', hr, ⟨h1.rd, h2⟩⟩
theorem step_append_any {ops : Array Oper} {o : Oper} {fr : Act} {K : Act → World → Prop} {Q : Exit → Act → World → Prop} {E : Prop} (N : Nat) (XS : List Value) (hg : o.guard = none) (s x : Operand) (t tx : TypeId)
    (hop : o.op = .call { callee := .builtin .append, args := #[s, x], argTypes := #[t, tx] }) {bytes : Nat} (hT : SliceOf P t e size bytes)
    (hs : fr.eval s = .slice a n n) (hrd : Rd size w a n n xs) {v : Value} {m : Nat} {news : List Value} (hx : fr.eval x = v) (hsrc : Src P size tx v m news w)
    (hN : n + m = N) (hX : xs ++ news = XS) (h63 : N ≤ maxLen) (hbytes : N * bytes ≤ 140737488355328)
    (hK : ∀ a' cap' w', App size w w' a' N cap' XS → K (fr.put o.dst (.slice a' N cap')) w') :
    if Region.wanted o (yielded ops fr.tmps) = true then Oper.wp P o fr w K Q else E := by
  have hw : Region.wanted o (yielded ops fr.tmps) = true := by simp [Region.wanted, hg]
  rw [if_pos hw]
  subst hN
  subst hX
  obtain ⟨ht, i, z, hi, hz, hsize, hby, hzs⟩ := hT
  obtain ⟨a', cap', w', hr, h1⟩ := run_append_any (P := P) (ty := o.type) ht hi hz hsize hby hzs hrd hsrc h63 hbytes
  unfold Oper.wp execOp
  simp only [hop, resolve, invoke, builtin, Sem.run_bind, Sem.run_pure, Result.andThen_ok, List.map_toArray, List.map_cons, List.map_nil, hs, hx, hr]
  exact hK _ _ _ h1
theorem wpList_append_any {ops : Array Oper} {rest : List Oper} {o : Oper} {fr : Act} {Q : Exit → Act → World → Prop} (N : Nat) (XS : List Value) (hg : o.guard = none) (s x : Operand) (t tx : TypeId)
    (hop : o.op = .call { callee := .builtin .append, args := #[s, x], argTypes := #[t, tx] }) {bytes : Nat} (hT : SliceOf P t e size bytes)
    (hs : fr.eval s = .slice a n n) (hrd : Rd size w a n n xs) {v : Value} {m : Nat} {news : List Value} (hx : fr.eval x = v) (hsrc : Src P size tx v m news w)
    (hN : n + m = N) (hX : xs ++ news = XS) (h63 : N ≤ maxLen) (hbytes : N * bytes ≤ 140737488355328)
    (hK : ∀ a' cap' w', App size w w' a' N cap' XS → wpList P ops Q rest (fr.put o.dst (.slice a' N cap')) w') : wpList P ops Q (o :: rest) fr w := by
  subst hN
  subst hX
  obtain ⟨ht, i, z, hi, hz, hsize, hby, hzs⟩ := hT
  refine wpList_plain hg fun K hK' => ?_
  obtain ⟨a', cap', w', hr, h1⟩ := run_append_any (P := P) (ty := o.type) ht hi hz hsize hby hzs hrd hsrc h63 hbytes
  unfold Oper.wp execOp
  simp only [hop, resolve, invoke, builtin, Sem.run_bind, Sem.run_pure, Result.andThen_ok, List.map_toArray, List.map_cons, List.map_nil, hs, hx, hr]
  exact hK' _ _ (hK a' cap' w' h1)
end
end Go.Proofs.YtcjifjfcjimefaaDoor.heap
namespace Go.Proofs.YtcjifjfcjimefaaDoor.rows
open Go.ChangeShapes Go.WideShapes Go.ChangeAt Go.RowKit Go.Proofs.YtcjifjfcjimefaaDoor.base Go.Proofs.YtcjifjfcjimefaaDoor.heap
set_option linter.unusedVariables false

/-- cells that read as a value of a type -/
def T (P : Program) (W : World) (t : TypeId) (cs : List Value) : Prop :=
  ∃ (H : Type) (enc : TypeId × Value → H) (fuel : Nat) (x : DataW H × List MemPlace), DataW.trod enc P W 0 (fun _ => true) true fuel t cs = some x
section
variable {P : Program} {W : World} {t e : TypeId} {k : IntKind} {v : Value} {cs : List Value}
theorem T.int (h : T P W t [v]) (ht : P.underlying t = some (.int k)) : ∃ n, v = .int k n ∧ (Lit.int k n).wf = true := by
  obtain ⟨H, enc, fuel, x, hx⟩ := h
  obtain ⟨z, hz, _, hw⟩ := DataW.trod_int ht hx
  simp at hz
  exact ⟨z, hz, hw⟩
theorem T.bool (h : T P W t [v]) (ht : P.underlying t = some .bool) : ∃ b, v = .bool b := by
  obtain ⟨H, enc, fuel, x, hx⟩ := h
  obtain ⟨z, hz, _⟩ := DataW.trod_bool ht hx
  simp at hz
  exact ⟨z, hz⟩
/-- the fields of a struct -/
theorem T.field (h : T P W t cs) {fs : Array Field} (ht : P.underlying t = some (.struct fs)) (j : Nat) (f : Field) (hf : fs[j]? = some f) : T P W f.type ((cs.drop f.offset).take (P.cellsOf f.type)) := by
  obtain ⟨H, enc, fuel, x, hx⟩ := h
  obtain ⟨xs, k', hk, hxy, _, hxl, hff⟩ := DataW.trod_struct ht hx
  have hj : j < fs.size := (Array.getElem?_eq_some_iff.1 hf).1
  exact ⟨H, enc, k', _, (hff j f hf).trans (List.getElem?_eq_getElem (by omega))⟩
theorem list_of {α : Type} (n : Nat) (p : Nat → α → Prop) (h : ∀ i, i < n → ∃ s, p i s) : ∃ l : List α, l.length = n ∧ ∀ i s, l[i]? = some s → p i s := by
  induction n with
  | zero => exact ⟨[], rfl, fun i s h => by simp at h⟩
  | succ n ih =>
    obtain ⟨l, hl, hp⟩ := ih (fun i hi => h i (by omega))
    obtain ⟨s, hs⟩ := h n (by omega)
    refine ⟨l ++ [s], by simp [hl], fun i t ht => ?_⟩
    by_cases hi : i < n
    · rw [List.getElem?_append_left (by omega)] at ht
      exact hp i t ht
    · rw [List.getElem?_append_right (by omega)] at ht
      by_cases e : i = n
      · subst e
        rw [hl, Nat.sub_self] at ht
        simp at ht
        subst ht
        exact hs
      · rw [List.getElem?_eq_none (by simp; omega)] at ht
        cases ht
/-- a slice whose elements are written by c -/
theorem T.slice {α : Type} {c : α → List Value} {K : Nat} (p : α → Prop) (hc : ∀ x, (c x).length = K) (h1 : ∀ x, ∀ u ∈ c x, u.oneCell' = true) (hK : 0 < K) (ht : P.underlying t = some (.slice e)) (hce : P.cellsOf e = K)
    (hdec : ∀ cs : List Value, cs.length = K → T P W e cs → ∃ x : α, cs = c x ∧ p x) (h : T P W t [v]) :
    ∃ (a : Option Addr) (n cap : Nat) (l : List α), v = .slice a n cap ∧ RS c K W a n cap l ∧ ∀ x ∈ l, p x := by
  obtain ⟨H, enc, fuel, x, hf⟩ := h
  rcases Go.Deep.open_slice ht hf with ⟨hcs, _⟩ | ⟨x, n, cap, m, k, D, Pl, hcs, hb, hl, hm, hmm, _, hx⟩
  · simp at hcs
    exact ⟨none, 0, 0, [], hcs, RS.nil _ _ _, fun s hs => (nomatch hs)⟩
  · simp at hcs
    have hlm : n ≤ m := by rw [hmm]; split <;> omega
    obtain ⟨l, hll, hp⟩ := list_of (α := α) n (fun i s => (∀ j v, (c s)[j]? = some v → W.cell? (x.add (i * K + j)) = some v) ∧ p s) (fun i hi => by
      obtain ⟨cs', h1, h2⟩ := hx i (by omega)
      rw [hce] at h1
      obtain ⟨_, hlen, hcell⟩ := World.cells?_some h1
      obtain ⟨y, rfl, hy⟩ := hdec cs' hlen ⟨H, enc, _, _, h2⟩
      refine ⟨y, fun j v hj => ?_, hy⟩
      have hjl : j < (c y).length := (List.getElem?_eq_some_iff.1 hj).1
      have := hcell j (by rw [← hlen]; exact hjl)
      rw [Go.Deep.add_add] at this
      rw [this]
      exact hj)
    refine ⟨some x, n, cap, l, hcs, ⟨⟨by rw [flat_len hc, hll], hl, hm, flat_one h1 l, fun h0 => ?_, fun h => by cases h⟩, hll⟩, fun s hs => ?_⟩
    · obtain ⟨b, off, spot⟩ := x
      obtain ⟨s0, hs0⟩ : ∃ s, l[0]? = some s := ⟨l[0]'(by omega), List.getElem?_eq_getElem _⟩
      obtain ⟨v0, hv0⟩ : ∃ v, (c s0)[0]? = some v := ⟨(c s0)[0]'(by rw [hc]; exact hK), List.getElem?_eq_getElem _⟩
      have h1 := (hp 0 s0 hs0).1 0 v0 hv0
      have hsp : spot = none := by simpa [Addr.add] using World.cell?_spot h1
      subst hsp
      have h2 : W.cell? ⟨b, off, none⟩ = some v0 := by simpa [Addr.add] using h1
      refine ⟨b, off, rfl, World.block_lt_of_cell? W _ h2, fun j v hj => ?_⟩
      have hjl : j < (l.flatMap c).length := (List.getElem?_eq_some_iff.1 hj).1
      rw [flat_len hc] at hjl
      have hq : j / K < l.length := (Nat.div_lt_iff_lt_mul hK).2 hjl
      obtain ⟨s, hs⟩ : ∃ s, l[j / K]? = some s := ⟨l[j / K], List.getElem?_eq_getElem _⟩
      have hr : j % K < K := Nat.mod_lt _ hK
      obtain ⟨u, hu⟩ : ∃ u, (c s)[j % K]? = some u := ⟨(c s)[j % K]'(by rw [hc]; exact hr), List.getElem?_eq_getElem _⟩
      have e1 := flat_get hc l _ _ s u hs hu
      have e2 := (hp _ s hs).1 _ u hu
      have e3 : j / K * K + j % K = j := by rw [Nat.mul_comm]; exact Nat.div_add_mod j K
      rw [e3] at e1 e2
      rw [e1] at hj
      cases hj
      rw [Addr.add_lit] at e2
      exact e2
    · obtain ⟨i, hi⟩ := List.mem_iff_getElem?.1 hs
      exact (hp i s hi).2
theorem RS.rl {α : Type} {f : α → Value} {w : World} {a : Option Addr} {n cap : Nat} {l : List α} (h : RS (fun x => [f x]) 1 w a n cap l) : RL f w a n cap l := by
  have e : l.flatMap (fun x => [f x]) = l.map f := by
    clear h
    induction l with
    | nil => rfl
    | cons x l ih => rw [List.flatMap_cons, ih]; rfl
  exact ⟨by rw [← e]; exact h.1, h.2⟩
theorem reads_t (h : Reads P W t v) (ht : P.underlying t = some (.slice e)) : T P W t [v] := by
  obtain ⟨base, H, enc, d, ps, hv, fuel, hf⟩ := h
  obtain ⟨a, n, cap, rfl⟩ := okWide_slice ht hv
  exact ⟨H, enc, fuel, _, by simpa [Value.cells] using hf⟩
end
end Go.Proofs.YtcjifjfcjimefaaDoor.rows

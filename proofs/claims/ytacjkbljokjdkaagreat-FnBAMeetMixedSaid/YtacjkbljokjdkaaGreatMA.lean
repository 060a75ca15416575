/-
  What the proofs of this claim share, part 1 of 8: small laws and walks of the functions that it reaches.
-/
import Derived.Test.YtacjkbljokjdkaaGreatProg
import Derived.WalkKit
import Derived.ProofKit
import Derived.OpenShut
import Derived.Below
import Derived.Deep.QuietTactic
import Derived.BigQuiet
import Derived.Lib.Hide
import Derived.Deep.AppendSrc
import Derived.Deep.Draws
import Derived.Deep.SlicePairs
import Derived.RegionTactic
import Derived.ChangeAlike
import Derived.Deep.Light
import Derived.Laws.Bits128
import Derived.WalkSpells
namespace Go.Proofs.YtacjkbljokjdkaaGreat.base
open Go.ChangeShapes Go.WideShapes Go.ChangeAt Go.RowKit

/-- a slice of integers that came in: it is nil; or it leads to a row of 'cap' cells, the numbers 'zs' (the first 'len' are its elements) -/
def IsRow (k : IntKind) (w : World) (a : Option Addr) (len cap : Nat) (zs : List Int) : Prop :=
  (a = none ∧ len = 0 ∧ cap = 0 ∧ zs = []) ∨
  ∃ x, a = some x ∧ len ≤ cap ∧ cap ≤ maxLen ∧ zs.length = cap ∧ (∀ i, i < zs.length → w.cell? (x.add i) = some (.int k (zs.getD i 0))) ∧ ∀ n ∈ zs, (Lit.int k n).wf = true

/-- where it has an element: its block, its place, its cells -/
theorem IsRow.cells {k : IntKind} {w : World} {a : Option Addr} {len cap : Nat} {zs : List Int} (h : IsRow k w a len cap zs) (h0 : 0 < len) :
    ∃ b off, a = some ⟨b, off, none⟩ ∧ len ≤ zs.length ∧ b < w.heap.size ∧ ∀ i, i < zs.length → w.cell? ⟨b, off + i, none⟩ = some (.int k (zs.getD i 0)) := by
  rcases h with ⟨_, rfl, _, _⟩ | ⟨x, rfl, hl, hm, hz, hc, hw⟩
  · omega
  · obtain ⟨b, off, spot⟩ := x
    have h1 := hc 0 (by omega)
    have hs : spot = none := by simpa [Addr.add] using World.cell?_spot h1
    subst hs
    have h2 : w.cell? ⟨b, off, none⟩ = some (.int k (zs.getD 0 0)) := by simpa [Addr.add] using h1
    exact ⟨b, off, rfl, by omega, World.block_lt_of_cell? w _ h2, fun i hi => by have := hc i hi; rwa [Addr.add_lit] at this⟩

theorem IsRow.le {k : IntKind} {w : World} {a : Option Addr} {len cap : Nat} {zs : List Int} (h : IsRow k w a len cap zs) : len ≤ cap ∧ cap ≤ 9223372036854775807 ∧ len ≤ zs.length := by
  rcases h with ⟨_, rfl, rfl, rfl⟩ | ⟨x, rfl, hl, hm, hz, _, _⟩
  · simp
  · unfold maxLen at hm; omega

theorem IsRow.wf {k : IntKind} {w : World} {a : Option Addr} {len cap : Nat} {zs : List Int} (h : IsRow k w a len cap zs) (h0 : (Lit.int k 0).wf = true) (i : Nat) : (Lit.int k (zs.getD i 0)).wf = true := by
  rcases h with ⟨_, _, _, rfl⟩ | ⟨x, rfl, hl, hm, hz, _, hw⟩
  · simpa using h0
  · by_cases hi : i < zs.length
    · rw [show zs.getD i 0 = zs[i] from by simp [hi]]; exact hw _ (List.getElem_mem hi)
    · rw [show zs.getD i 0 = 0 from by simp [Nat.le_of_not_lt hi]]; exact h0

theorem wf_u8 {n : Int} (h : (Lit.int .u8 n).wf = true) : 0 ≤ n ∧ n < 256 := by
  have : 0 ≤ n ∧ n ≤ 255 := by simpa [Lit.wf, IntKind.min, IntKind.max, IntKind.signed, IntKind.bits] using h
  omega
theorem wf_u16 {n : Int} (h : (Lit.int .u16 n).wf = true) : 0 ≤ n ∧ n < 65536 := by
  have : 0 ≤ n ∧ n ≤ 65535 := by simpa [Lit.wf, IntKind.min, IntKind.max, IntKind.signed, IntKind.bits] using h
  omega
theorem wf_u32 {n : Int} (h : (Lit.int .u32 n).wf = true) : 0 ≤ n ∧ n < 4294967296 := by
  have : 0 ≤ n ∧ n ≤ 4294967295 := by simpa [Lit.wf, IntKind.min, IntKind.max, IntKind.signed, IntKind.bits] using h
  omega
theorem wf_u64 {n : Int} (h : (Lit.int .u64 n).wf = true) : 0 ≤ n ∧ n < 18446744073709551616 := by
  have : 0 ≤ n ∧ n ≤ 18446744073709551615 := by simpa [Lit.wf, IntKind.min, IntKind.max, IntKind.signed, IntKind.bits] using h
  omega
theorem wf_i64 {n : Int} (h : (Lit.int .i64 n).wf = true) : -9223372036854775808 ≤ n ∧ n ≤ 9223372036854775807 := by
  simpa [Lit.wf, IntKind.min, IntKind.max, IntKind.signed, IntKind.bits] using h

theorem ret_int {k : IntKind} {a b : Int} (h : a = b) : Ending.returned (.int k a) = .returned (.int k b) := by rw [h]

theorem below_drewN {B : Nat} {a w : World} (h : Below B a w) (n : Nat) : Below B a (w.drewN n) := ⟨h.os, h.tape, h.output, h.size, h.block⟩

/-- a parameter of type t that can be read in the world W -/
def Reads (P : Program) (W : World) (t : TypeId) (v : Value) : Prop :=
  ∃ (base : Nat) (H : Type) (enc : TypeId × Value → H) (d : DataW H) (ps : List MemPlace), Value.okWide P W .any base t v ∧ DataW.Trod enc P W 0 (fun _ => true) true t v d ps

section reads
variable {P : Program} {W : World} {t e : TypeId} {k : IntKind} {v : Value}
theorem Reads.int (h : Reads P W t v) (ht : P.underlying t = some (.int k)) : ∃ n, v = .int k n ∧ (Lit.int k n).wf = true := by
  obtain ⟨base, H, enc, d, ps, hv, hd⟩ := h
  obtain ⟨n, rfl, _, _, hw⟩ := open_int ht hv hd
  exact ⟨n, rfl, hw⟩
theorem Reads.bool (h : Reads P W t v) (ht : P.underlying t = some .bool) : ∃ b, v = .bool b := by
  obtain ⟨base, H, enc, d, ps, hv, hd⟩ := h
  obtain ⟨b, rfl, _, _⟩ := open_bool ht hv hd
  exact ⟨b, rfl⟩
theorem row_of {H : Type} {enc : TypeId × Value → H} {fuel : Nat} {a : Option Addr} {len cap : Nat} {x : DataW H × List MemPlace} (ht : P.underlying t = some (.slice e)) (he : P.underlying e = some (.int k)) (hc : P.cellsOf e = 1)
    (hf : DataW.trod enc P W 0 (fun _ => true) true fuel t [.slice a len cap] = some x) : ∃ zs, IsRow k W a len cap zs := by
  rcases open_ints ht he hc hf with ⟨hcs, _⟩ | ⟨x, l, c, zs, hcs, _, hl, hm, hz, _, hcell, hwz⟩
  · simp at hcs
    obtain ⟨rfl, rfl, rfl⟩ := hcs
    exact ⟨[], .inl ⟨rfl, rfl, rfl, rfl⟩⟩
  · simp at hcs
    obtain ⟨rfl, rfl, rfl⟩ := hcs
    exact ⟨zs, .inr ⟨_, rfl, hl, hm, by simpa using hz, hcell, hwz⟩⟩
theorem Reads.ints (h : Reads P W t v) (ht : P.underlying t = some (.slice e)) (he : P.underlying e = some (.int k)) (hc : P.cellsOf e = 1) : ∃ a len cap zs, v = .slice a len cap ∧ IsRow k W a len cap zs := by
  obtain ⟨base, H, enc, d, ps, hv, fuel, hf⟩ := h
  obtain ⟨a, len, cap, rfl⟩ := okWide_slice ht hv
  obtain ⟨zs, hz⟩ := row_of ht he hc (by simpa [Value.cells] using hf)
  exact ⟨a, len, cap, zs, rfl, hz⟩
end reads
end Go.Proofs.YtacjkbljokjdkaaGreat.base
namespace Go.Proofs.YtacjkbljokjdkaaGreat.heap
open Go.RowKit

/-- the cells xs stand one behind the other from place off of block b on -/
def Cells (w : World) (b off : Nat) (xs : List Value) : Prop := ∀ j v, xs[j]? = some v → w.cell? ⟨b, off + j, none⟩ = some v

/-- blocks outside S are as they were -/
structure Only (S : Nat → Prop) (w w' : World) : Prop where
  os : w'.os = w.os
  tape : w'.tape = w.tape
  output : w'.output = w.output
  size : w.heap.size ≤ w'.heap.size
  block : ∀ k, k < w.heap.size → ¬ S k → w'.heap[k]? = w.heap[k]?

/-- k is the block that a leads to -/
def At : Option Addr → Nat → Prop
  | some ad, k => ad.block = k
  | none, _ => False

section only
variable {S T : Nat → Prop} {w w' w'' : World}
theorem Only.refl (S : Nat → Prop) (w : World) : Only S w w := ⟨rfl, rfl, rfl, Nat.le_refl _, fun _ _ _ => rfl⟩
theorem Only.mono (h : Only S w w') (hs : ∀ k, k < w.heap.size → S k → T k) : Only T w w' := ⟨h.os, h.tape, h.output, h.size, fun k hk hn => h.block k hk fun s => hn (hs k hk s)⟩
/-- the second step may change what the first one may, and what is new -/
theorem Only.trans (h : Only S w w') (h' : Only T w' w'') (hs : ∀ k, k < w.heap.size → T k → S k) : Only S w w'' :=
  ⟨h'.os.trans h.os, h'.tape.trans h.tape, h'.output.trans h.output, Nat.le_trans h.size h'.size, fun k hk hn =>
    (h'.block k (Nat.lt_of_lt_of_le hk h.size) fun t => hn (hs k hk t)).trans (h.block k hk hn)⟩
theorem Only.drew (h : Only S w w') : Only S w w'.drew := ⟨h.os, h.tape, h.output, h.size, h.block⟩
theorem Only.drewN (h : Only S w w') (n : Nat) : Only S w (w'.drewN n) := ⟨h.os, h.tape, h.output, h.size, h.block⟩
theorem Only.undrewN {n : Nat} (h : Only S (w.drewN n) w') : Only S w w' := ⟨h.os, h.tape, h.output, h.size, h.block⟩
theorem Only.undrew (h : Only S w.drew w') : Only S w w' := ⟨h.os, h.tape, h.output, h.size, h.block⟩
theorem Only.alloc (h : Only S w w') (o : Obj) : Only S w (w'.alloc o) :=
  h.trans (T := fun _ => False) ⟨rfl, rfl, rfl, by simp, fun k hk _ => Below.heap_alloc _ _ _ hk⟩ (fun _ _ f => f.elim)
theorem Only.setCell (h : Only S w w') (p : Addr) (u : Value) (hp : p.block < w.heap.size → S p.block) : Only S w (w'.setCell p u) :=
  h.trans (T := fun k => k = p.block) ⟨rfl, rfl, rfl, by simp [World.setCell], fun k _ hn => Below.heap_setCell _ _ _ _ hn⟩ (fun k hk e => by subst e; exact hp hk)
theorem Only.grown {row : Option Nat} (h : Only S w w') (hg : w'.grownBy w'' row) (hr : ∀ k, k < w.heap.size → row = some k → S k) : Only S w w'' :=
  h.trans (T := fun k => row = some k) ⟨hg.os, hg.tape, hg.output, hg.size, fun k hk hn => hg.block k hk fun e => hn e.symm⟩ hr
theorem Only.of_below (h : Below w.heap.size w w') : Only (fun _ => False) w w' := ⟨h.os, h.tape, h.output, h.size, fun k hk _ => h.block k hk⟩
theorem Only.below {B : Nat} (h : Only S w w') (hB : B ≤ w.heap.size) (hs : ∀ k, k < B → ¬ S k) : Below B w w' := ⟨h.os, h.tape, h.output, h.size, fun k hk => h.block k (by omega) (hs k hk)⟩
theorem Only.cell (h : Only S w w') {p : Addr} (hp : p.block < w.heap.size) (hn : ¬ S p.block) : w'.cell? p = w.cell? p := World.cell?_of_block (w := w) (h.block p.block hp hn)
theorem Only.frozen (h : Only S w w') {p : Addr} (hp : p.block < w.heap.size) (hn : ¬ S p.block) : w'.frozen? p = w.frozen? p := World.frozen?_of_block (w := w) (h.block p.block hp hn)
theorem lt_of_heap {b : Nat} {o : Obj} (h : w.heap[b]? = some o) : b < w.heap.size := (Array.getElem?_eq_some_iff.1 h).1
theorem Only.obj (h : Only S w w') {b : Nat} {o : Obj} (hb : w.heap[b]? = some o) (hn : ¬ S b) : w'.heap[b]? = some o := (h.block b (lt_of_heap hb) hn).trans hb
end only

section cells
variable {w w' : World} {b off : Nat} {xs : List Value}
theorem Cells.nil (w : World) (b off : Nat) : Cells w b off [] := fun j v h => by simp at h
theorem Cells.at (h : Cells w b off xs) (j : Nat) (hj : j < xs.length) : w.cell? ⟨b, off + j, none⟩ = some xs[j] := h j _ (List.getElem?_eq_getElem hj)
theorem Cells.keep {S : Nat → Prop} (h : Cells w b off xs) (hb : b < w.heap.size) (ho : Only S w w') (hn : ¬ S b) : Cells w' b off xs :=
  fun j v hj => (ho.cell (p := ⟨b, off + j, none⟩) hb hn).trans (h j v hj)
theorem Cells.drop (h : Cells w b off xs) (n : Nat) : Cells w b (off + n) (xs.drop n) := fun j v hj => by
  rw [List.getElem?_drop] at hj
  have := h (n + j) v hj
  rwa [← Nat.add_assoc] at this
theorem Cells.take (h : Cells w b off xs) (n : Nat) : Cells w b off (xs.take n) := fun j v hj => by
  rw [List.getElem?_take] at hj
  split at hj
  · exact h j v hj
  · cases hj
theorem Cells.drewN (h : Cells w b off xs) (n : Nat) : Cells (w.drewN n) b off xs := h
end cells

/-- a slice that can be read: n elements of 'size' cells each, the cells xs -/
structure Rd (size : Nat) (w : World) (a : Option Addr) (n cap : Nat) (xs : List Value) : Prop where
  len : xs.length = n * size
  le : n ≤ cap
  max : cap ≤ maxLen
  one : ∀ u ∈ xs, u.oneCell' = true
  cells : 0 < n → ∃ b off, a = some ⟨b, off, none⟩ ∧ b < w.heap.size ∧ Cells w b off xs
  nilcap : a = none → cap = 0

section rd
variable {P : Program} {size : Nat} {w w' : World} {a : Option Addr} {n cap : Nat} {xs : List Value}
theorem Rd.keep {S : Nat → Prop} (h : Rd size w a n cap xs) (ho : Only S w w') (hn : ∀ k, At a k → ¬ S k) : Rd size w' a n cap xs :=
  ⟨h.len, h.le, h.max, h.one, fun hp => by
    obtain ⟨b, off, rfl, hb, hc⟩ := h.cells hp
    exact ⟨b, off, rfl, Nat.lt_of_lt_of_le hb ho.size, hc.keep hb ho (hn b rfl)⟩, h.nilcap⟩
theorem Rd.drewN (h : Rd size w a n cap xs) (k : Nat) : Rd size (w.drewN k) a n cap xs := ⟨h.len, h.le, h.max, h.one, h.cells, h.nilcap⟩
theorem Rd.of_heap (h : Rd size w a n cap xs) (he : w'.heap = w.heap) : Rd size w' a n cap xs :=
  ⟨h.len, h.le, h.max, h.one, fun hp => by
    obtain ⟨b, off, ha, hb, hc⟩ := h.cells hp
    exact ⟨b, off, ha, by rw [he]; exact hb, fun j v hj => by rw [← hc j v hj]; unfold World.cell?; rw [he]⟩, h.nilcap⟩
theorem Rd.drew (h : Rd size w a n cap xs) : Rd size w.drew a n cap xs := ⟨h.len, h.le, h.max, h.one, h.cells, h.nilcap⟩
theorem Rd.nil (w : World) (size : Nat) : Rd size w none 0 0 [] := ⟨by simp, Nat.le_refl _, by simp [maxLen], by simp, by omega, fun _ => rfl⟩
theorem Rd.bound (h : Rd size w a n cap xs) : n ≤ cap ∧ cap ≤ 9223372036854775807 := by have := h.max; unfold maxLen at this; exact ⟨h.le, by omega⟩
theorem Rd.src {tx e' : TypeId} (h : Rd size w a n cap xs) (hk : P.underlying tx = some (.slice e')) : Src P size tx (.slice a n cap) n xs w := by
  rcases Nat.eq_zero_or_pos n with rfl | hp
  · obtain rfl : xs = [] := List.eq_nil_of_length_eq_zero (by simpa using h.len)
    cases a with
    | none => exact Src.ofNil w hk cap
    | some ad => exact Src.ofSlice w hk ad 0 cap [] (by simp) (by simp) (by simp)
  · obtain ⟨b, off, rfl, hb, hc⟩ := h.cells hp
    exact Src.ofSlice w hk _ n cap xs h.len (fun j u hu => by rw [Addr.add_lit]; exact hc j u hu) h.one
end rd

/-- a slice of the call's own: nil, or at the head of a row of its own -/
structure Own (e size : Nat) (w : World) (a : Option Addr) (n cap : Nat) (xs : List Value) : Prop where
  len : xs.length = n * size
  le : n ≤ cap
  max : cap ≤ maxLen
  one : ∀ u ∈ xs, u.oneCell' = true
  alt : (a = none ∧ cap = 0) ∨ ∃ b cur, a = some ⟨b, 0, none⟩ ∧ w.heap[b]? = some (.cells cur e (0, 0)) ∧ cur.size = cap * size ∧ cur.toList.take (n * size) = xs

theorem setCell_heap {w : World} {b : Nat} {cur : Array Value} {e : TypeId} {fr : Nat × Nat} (hb : w.heap[b]? = some (.cells cur e fr)) (j : Nat) (v : Value) :
    (w.setCell ⟨b, j, none⟩ v).heap[b]? = some (.cells (cur.setIfInBounds j v) e fr) := by
  simp [World.setCell, Array.getElem?_modify, hb]

theorem heap_alloc_new' (w : World) (o : Obj) (k : Nat) (hk : k = w.heap.size) : (w.alloc o).heap[k]? = some o := by subst hk; exact heap_alloc_new w o

/-- what a whole row yields to an append -/
theorem Src.row {P : Program} {w : World} {size : Nat} {tx e' : TypeId} (hk : P.underlying tx = some (.slice e')) {g : Nat} {cs : Array Value} {t : TypeId} {fr : Nat × Nat} (hg : w.heap[g]? = some (.cells cs t fr)) (n c : Nat)
    (hl : cs.size = n * size) (h1 : ∀ u ∈ cs.toList, u.oneCell' = true) : Src P size tx (.slice (some ⟨g, 0, none⟩) n c) n cs.toList w :=
  Src.ofSlice w hk _ n c cs.toList (by rw [Array.length_toList]; exact hl) (fun j u hu => by
    rw [Addr.add_lit, Nat.zero_add, cell_of_row w g j cs t fr hg]
    simpa using hu) h1
/-- the cells of a block that is known whole -/
theorem block_cell {w : World} {b j : Nat} {cs : Array Value} {t : TypeId} {fr : Nat × Nat} {v : Value} (hb : w.heap[b]? = some (.cells cs t fr)) (hv : cs[j]? = some v) : w.cell? ⟨b, j, none⟩ = some v := by
  rw [cell_of_row w b j cs t fr hb]; exact hv
theorem block_free {w : World} {b j : Nat} {cs : Array Value} {t : TypeId} (hb : w.heap[b]? = some (.cells cs t (0, 0))) : w.frozen? ⟨b, j, none⟩ = false := by simp [World.frozen?, hb]

section own
variable {P : Program} {e size : Nat} {w w' : World} {a : Option Addr} {n cap : Nat} {xs : List Value}
theorem Own.nil (e size : Nat) (w : World) : Own e size w none 0 0 [] := ⟨by simp, Nat.le_refl _, by simp [maxLen], by simp, .inl ⟨rfl, rfl⟩⟩
theorem Own.lt (h : Own e size w a n cap xs) : ∀ k, At a k → k < w.heap.size := by
  intro k hk
  rcases h.alt with ⟨rfl, _⟩ | ⟨b, cur, rfl, hb, _⟩
  · exact hk.elim
  · obtain rfl : b = k := hk
    exact lt_of_heap hb
theorem Own.keep {S : Nat → Prop} (h : Own e size w a n cap xs) (ho : Only S w w') (hn : ∀ k, At a k → ¬ S k) : Own e size w' a n cap xs :=
  ⟨h.len, h.le, h.max, h.one, by
    rcases h.alt with hh | ⟨b, cur, rfl, hb, r⟩
    · exact .inl hh
    · exact .inr ⟨b, cur, rfl, ho.obj hb (hn b rfl), r⟩⟩
theorem Own.rd (h : Own e size w a n cap xs) : Rd size w a n cap xs :=
  ⟨h.len, h.le, h.max, h.one, fun hp => by
    rcases h.alt with ⟨rfl, hc⟩ | ⟨b, cur, rfl, hb, hs, ht⟩
    · have := h.le; omega
    · refine ⟨b, 0, rfl, lt_of_heap hb, fun j v hj => ?_⟩
      rw [Nat.zero_add, cell_of_row w b j cur e (0, 0) hb]
      rw [← ht, List.getElem?_take] at hj
      split at hj
      · simpa using hj
      · exact absurd hj (by simp), fun ha => by
    rcases h.alt with ⟨_, hc⟩ | ⟨b, cur, rfl, _⟩
    · exact hc
    · exact absurd ha (by simp)⟩
theorem Own.of_heap (h : Own e size w a n cap xs) (he : w'.heap = w.heap) : Own e size w' a n cap xs := ⟨h.len, h.le, h.max, h.one, by rw [he]; exact h.alt⟩
theorem Own.drew (h : Own e size w a n cap xs) : Own e size w.drew a n cap xs := ⟨h.len, h.le, h.max, h.one, h.alt⟩
theorem Own.drewN (h : Own e size w a n cap xs) (k : Nat) : Own e size (w.drewN k) a n cap xs := ⟨h.len, h.le, h.max, h.one, h.alt⟩
theorem Own.bound (h : Own e size w a n cap xs) : n ≤ cap ∧ cap ≤ 9223372036854775807 := h.rd.bound
/-- a block of the call's own that was just made -/
theorem Own.made (e size : Nat) (w : World) (cur : Array Value) (n cap : Nat) (hle : n ≤ cap) (hm : cap ≤ maxLen) (hs : cur.size = cap * size) (h1 : ∀ u ∈ cur.toList.take (n * size), u.oneCell' = true) :
    Own e size (w.alloc (.cells cur e)) (some ⟨w.heap.size, 0, none⟩) n cap (cur.toList.take (n * size)) :=
  ⟨by rw [List.length_take, Array.length_toList, hs]; exact Nat.min_eq_left (Nat.mul_le_mul_right _ hle), hle, hm, h1, .inr ⟨w.heap.size, cur, rfl, heap_alloc_new w _, hs, rfl⟩⟩
/-- an element's cell is written -/
theorem Own.set (h : Own e size w a n cap xs) {b : Nat} (ha : a = some ⟨b, 0, none⟩) (j : Nat) (v : Value) (hv : v.oneCell' = true) (_ : j < n * size) : Own e size (w.setCell ⟨b, j, none⟩ v) a n cap (xs.set j v) := by
  subst ha
  refine ⟨by rw [List.length_set]; exact h.len, h.le, h.max, ?_, ?_⟩
  · intro u hu
    rcases List.mem_or_eq_of_mem_set hu with hu | rfl
    · exact h.one u hu
    · exact hv
  · rcases h.alt with ⟨hc, _⟩ | ⟨b', cur, hb', hb, hs, ht⟩
    · cases hc
    · cases hb'
      refine .inr ⟨b, cur.setIfInBounds j v, rfl, ?_, by simpa using hs, ?_⟩
      · exact setCell_heap hb j v
      · rw [Array.toList_setIfInBounds, List.take_set, ht]
theorem Own.frozen (h : Own e size w a n cap xs) {b : Nat} (ha : a = some ⟨b, 0, none⟩) (j : Nat) : w.frozen? ⟨b, j, none⟩ = false := by
  subst ha
  rcases h.alt with ⟨hc, _⟩ | ⟨b', cur, hb', hb, hs, ht⟩
  · cases hc
  · cases hb'
    simp [World.frozen?, hb]
theorem Own.at (h : Own e size w a n cap xs) (hp : 0 < n) : ∃ b, a = some ⟨b, 0, none⟩ ∧ b < w.heap.size ∧ Cells w b 0 xs := by
  obtain ⟨b, off, rfl, hb, hc⟩ := h.rd.cells hp
  rcases h.alt with ⟨hc, _⟩ | ⟨b', cur, hb', _⟩
  · cases hc
  · cases hb'
    exact ⟨b, rfl, hb, hc⟩

/-- append onto a slice of the call's own: in place, or into a new row -/
theorem run_append {t tx ty : TypeId} {i : TypeInfo} {z : Value} {bytes m : Nat} {x : Value} {news : List Value} (ht : P.underlying t = some (.slice e)) (hi : P.info? e = some i) (hz : i.zero = some z)
    (hsize : i.size = size) (hby : i.bytes = bytes) (hzs : z.cells.size = size) (hown : Own e size w a n cap xs) (hs : Src P size tx x m news w) (h63 : n + m ≤ maxLen) (hbytes : (n + m) * bytes ≤ 140737488355328) :
    ∃ a' cap' w', (Builtin.append_ #[t, tx] ty #[.slice a n cap, x]).run P w = .ok (.slice a' (n + m) cap') w' ∧ Own e size w' a' (n + m) cap' (xs ++ news) ∧ Only (At a) w w' ∧
      (∀ k, At a' k → At a k ∨ w.heap.size ≤ k) ∧ (a' = none → a = none ∧ m = 0) ∧ (m = 0 → a' = a ∧ cap' = cap) := by
  subst hsize
  subst hby
  have hone : ∀ u ∈ xs ++ news, u.oneCell' = true := fun u hu => (List.mem_append.1 hu).elim (hown.one u) (hs.one u)
  have hlen : (xs ++ news).length = (n + m) * i.size := by rw [List.length_append, hown.len, hs.newsLen, Nat.add_mul]
  have hsmall : n + m ≤ 9223372036854775807 := by simp only [maxLen] at h63; omega
  by_cases hroom : n + m ≤ cap
  · rcases hown.alt with ⟨rfl, rfl⟩ | ⟨b, cur, rfl, hb, hcs, htk⟩
    · obtain rfl : n = 0 := by omega
      obtain rfl : m = 0 := by omega
      have hn : news = [] := List.eq_nil_of_length_eq_zero (by simpa using hs.newsLen)
      have hx : xs = [] := List.eq_nil_of_length_eq_zero (by simpa using hown.len)
      subst hn; subst hx
      refine ⟨none, 0, w, ?_, Own.nil e i.size w, Only.refl _ _, fun _ h => h.elim, fun _ => ⟨rfl, rfl⟩, fun _ => ⟨rfl, rfl⟩⟩
      rcases hs.kind with ⟨e', hk⟩ | hk <;> simp [Builtin.append_, run_underlying ht, run_underlying hk, sizeOf, typeInfo, hi, hs.len, hs.cells]
    · have hsz : n * i.size + news.length ≤ cur.size := by rw [hs.newsLen, hcs, ← Nat.add_mul]; exact Nat.mul_le_mul_right _ hroom
      have hst := run_storeCells_at P b (n * i.size) e news 0 cur w hb (by simpa using hsz) hs.one
      simp only [Nat.add_zero] at hst
      have hr : (Builtin.append_ #[t, tx] ty #[.slice (some ⟨b, 0, none⟩) n cap, x]).run P w = .ok (.slice (some ⟨b, 0, none⟩) (n + m) cap) (w.setRow b (cur.toList.take (n * i.size) ++ news ++ cur.toList.drop (n * i.size + news.length)).toArray) := by
        rcases hs.kind with ⟨e', hk⟩ | hk <;> simp [Builtin.append_, run_underlying ht, run_underlying hk, sizeOf, typeInfo, hi, hs.len, hroom, hs.cells, Addr.add_lit, hst]
      refine ⟨some ⟨b, 0, none⟩, cap, _, hr, ⟨hlen, hroom, hown.max, hone, .inr ⟨b, _, rfl, setRow_heap w b cur _ e _ hb, ?_, ?_⟩⟩,
        ⟨rfl, rfl, rfl, by simp, fun k _ hk => setRow_other w b k _ (fun e => hk e.symm)⟩, fun _ h => .inl h, (fun h => by cases h), fun _ => ⟨rfl, rfl⟩⟩
      · simp only [List.size_toArray, List.length_append, List.length_take, List.length_drop, Array.length_toList]
        omega
      · simp only [htk, ← hlen]
        exact List.take_left
  · have hold : (Builtin.firstCells i.size n (.slice a n cap)).run P w.drew = .ok xs.toArray w.drew := by
      cases a with
      | none =>
        have h0 : n = 0 := by have := hown.le; rcases hown.alt with ⟨_, hc⟩ | ⟨b, cur, hb, _⟩; omega; cases hb
        subst h0
        have hx : xs = [] := List.eq_nil_of_length_eq_zero (by simpa using hown.len)
        subst hx
        exact run_firstCells_none _ _ _ _ _
      | some ad =>
        rcases hown.alt with ⟨hc, _⟩ | ⟨b, cur, hb', hb, hcs, htk⟩
        · cases hc
        · cases hb'
          refine run_firstCells_some (P := P) w.drew i.size n _ n cap xs hown.len fun j v hj => ?_
          rw [Addr.add_lit]
          rcases Nat.eq_zero_or_pos n with rfl | hp
          · have : xs = [] := List.eq_nil_of_length_eq_zero (by simpa using hown.len)
            subst this; simp at hj
          · obtain ⟨b', off', he, _, hc⟩ := hown.rd.cells hp
            cases he
            exact hc j v hj
    have hge := grownCap_ge w (n + m) cap e
    have hcm : grownCap w (n + m) cap e ≤ maxLen := grownCap_le_maxLen w (n + m) cap e h63
    have hr := run_append_grow_src (P := P) w t tx ty e i z ht hi hz a n cap xs hold x m news hs (by omega) (by omega) (growslice_fits (by omega) hbytes)
    have htake : ((xs ++ news).toArray ++ Builtin.zeroCells z.cells (grownCap w (n + m) cap e - (n + m))).toList.take ((n + m) * i.size) = xs ++ news := by
      rw [Array.toList_append]
      simp only [← hlen]
      exact List.take_left
    refine ⟨_, _, _, hr, ?_, ((Only.refl _ w).drew).alloc _, fun k hk => .inr (by have : w.heap.size = k := hk; omega), (fun h => by cases h), fun h => by have := hown.le; omega⟩
    have hm := Own.made e i.size w.drew ((xs ++ news).toArray ++ Builtin.zeroCells z.cells (grownCap w (n + m) cap e - (n + m))) (n + m) (grownCap w (n + m) cap e) hge hcm (by
      simp only [Array.size_append, List.size_toArray, size_zeroCells, hzs, hlen, ← Nat.add_mul]
      congr 1
      omega) (by rw [htake]; exact hone)
    rw [htake] at hm
    exact hm
/-- what the table says of a slice's type and of its element's -/
def SliceOf (P : Program) (t e size bytes : Nat) : Prop :=
  P.underlying t = some (.slice e) ∧ ∃ i z, P.info? e = some i ∧ i.zero = some z ∧ i.size = size ∧ i.bytes = bytes ∧ z.cells.size = size
theorem SliceOf.mk {P : Program} {t e size bytes : Nat} {z : Value} (h : P.underlying t = some (.slice e)) (h' : (P.info? e).map (fun i => (i.zero, i.size, i.bytes)) = some (some z, size, bytes)) (hz : z.cells.size = size) : SliceOf P t e size bytes := by
  obtain ⟨i, hi, h1, h2, h3⟩ := info_parts h'
  exact ⟨h, i, z, hi, h1, h2, h3, hz⟩

/-- what an append leaves: the slice that it hands back, and what may have changed -/
structure Grew (e size : Nat) (w w' : World) (a a' : Option Addr) (m N cap cap' : Nat) (XS : List Value) : Prop where
  own : Own e size w' a' N cap' XS
  only : Only (At a) w w'
  fresh : ∀ k, At a' k → At a k ∨ w.heap.size ≤ k
  nil : a' = none → a = none ∧ m = 0
  same : m = 0 → a' = a ∧ cap' = cap

/-- append: N, XS: the length and the cells behind it, in the caller's own spelling -/
theorem wpList_append {ops : Array Oper} {rest : List Oper} {o : Oper} {fr : Act} {Q : Exit → Act → World → Prop} (N : Nat) (XS : List Value) (hg : o.guard = none) (s x : Operand) (t tx : TypeId)
    (hop : o.op = .call { callee := .builtin .append, args := #[s, x], argTypes := #[t, tx] }) {bytes : Nat} (hT : SliceOf P t e size bytes)
    (hs : fr.eval s = .slice a n cap) (hown : Own e size w a n cap xs) {v : Value} {m : Nat} {news : List Value} (hx : fr.eval x = v) (hsrc : Src P size tx v m news w)
    (hN : n + m = N) (hX : xs ++ news = XS) (h63 : N ≤ maxLen) (hbytes : N * bytes ≤ 140737488355328)
    (hK : ∀ a' cap' w', Grew e size w w' a a' m N cap cap' XS →
      wpList P ops Q rest (fr.put o.dst (.slice a' N cap')) w') : wpList P ops Q (o :: rest) fr w := by
  subst hN
  subst hX
  obtain ⟨ht, i, z, hi, hz, hsize, hby, hzs⟩ := hT
  refine wpList_plain hg fun K hK' => ?_
  obtain ⟨a', cap', w', hr, h1, h2, h3, h4, h5⟩ := run_append (P := P) (ty := o.type) ht hi hz hsize hby hzs hown hsrc h63 hbytes
  unfold Oper.wp execOp
  simp only [hop, resolve, invoke, builtin, Sem.run_bind, Sem.run_pure, Result.andThen_ok, List.map_toArray, List.map_cons, List.map_nil, hs, hx, hr]
  exact hK' _ _ (hK a' cap' w' ⟨h1, h2, h3, h4, h5⟩)
/-- copy into a row that is known whole, of elements of one cell -/
theorem wpList_copy {ops : Array Oper} {rest : List Oper} {o : Oper} {fr : Act} {Q : Exit → Act → World → Prop} (k : Nat) (hg : o.guard = none) (d s : Operand) (dT sT : TypeId)
    (hop : o.op = .call { callee := .builtin .copy, args := #[d, s], argTypes := #[dT, sT] }) {bytes : Nat} (hT : SliceOf P dT e 1 bytes)
    {g off dl dc : Nat} (hd : fr.eval d = .slice (some ⟨g, off, none⟩) dl dc) {cur : Array Value} (hb : w.heap[g]? = some (.cells cur e (0, 0)))
    {sa : Option Addr} {sl sc : Nat} (hs : fr.eval s = .slice sa sl sc) {ys : List Value} (hr : Rd 1 w sa sl sc ys) (hk : k = min sl dl) (hfit : off + dl ≤ cur.size)
    (hK : ∀ w', w'.heap[g]? = some (.cells (cur.toList.take off ++ ys.take k ++ cur.toList.drop (off + k)).toArray e (0, 0)) → Only (fun j => j = g) w w' →
      wpList P ops Q rest (fr.put o.dst (.int .i64 (k : Int))) w') : wpList P ops Q (o :: rest) fr w := by
  obtain ⟨ht, i, z, hi, hz, hsize, hby, hzs⟩ := hT
  have hlen : (ys.take k).length = k := by rw [List.length_take, hr.len, hk, Nat.mul_one]; omega
  have hf : (Builtin.firstCells 1 k (.slice sa sl sc)).run P w = .ok (ys.take k).toArray w := by
    rcases Nat.eq_zero_or_pos k with h0 | hp
    · rw [h0]
      cases sa with
      | none => exact run_firstCells_none _ _ _ _ _
      | some ad => exact run_firstCells_some (P := P) w 1 0 ad sl sc [] rfl (fun j v hj => by simp at hj)
    · obtain ⟨b, of, rfl, hbl, hc⟩ := hr.cells (by omega)
      refine run_firstCells_some (P := P) w 1 k _ sl sc (ys.take k) (by rw [hlen]; omega) (fun j v hj => ?_)
      rw [Addr.add_lit]
      exact (hc.take k) j v hj
  have hst := run_storeCells_at P g off e (ys.take k) 0 cur w hb (by rw [hlen]; omega) (fun u hu => hr.one u (List.mem_of_mem_take hu))
  simp only [Nat.add_zero, hlen] at hst
  have hrun : (Builtin.copy_ #[dT, sT] o.type #[.slice (some ⟨g, off, none⟩) dl dc, .slice sa sl sc]).run P w = .ok (.int .i64 (k : Int)) (w.setRow g (cur.toList.take off ++ ys.take k ++ cur.toList.drop (off + k)).toArray) := by
    have hmin : Nat.min sl dl = k := hk.symm
    simp [Builtin.copy_, run_underlying ht, sizeOf, typeInfo, hi, hsize, Builtin.lenOf, hmin, hf, hst, goInt]
  refine wpList_plain hg fun K hK' => ?_
  unfold Oper.wp execOp
  simp only [hop, resolve, invoke, builtin, Sem.run_bind, Sem.run_pure, Result.andThen_ok, List.map_toArray, List.map_cons, List.map_nil, hs, hd, hrun]
  exact hK' _ _ (hK _ (setRow_heap w g cur _ e _ hb) ⟨rfl, rfl, rfl, by simp, fun j _ hj => setRow_other w g j _ hj⟩)

/-- make([]T, k): the very world behind it -/
theorem make_eq {t : Nat} {z : Value} {bytes : Nat} (kl kc : IntKind) (ht : P.underlying t = some (.slice e)) (h' : (P.info? e).map (fun i => (i.zero, i.size, i.bytes)) = some (some z, size, bytes)) (k : Nat)
    (hb : bytes * k ≤ 281474976710656) (hk : k ≤ 9223372036854775807) (w : World) :
    (Instr.makeSlice t (.int kl (k : Int)) (.int kc (k : Int))).run P w = .ok (.slice (some ⟨w.heap.size, 0, none⟩) k k) (w.alloc (.cells (madeCells z.cells (k * size)) e)) := by
  obtain ⟨i, hi, h1, h2, h3⟩ := info_parts h'
  have h := run_make (P := P) w t e i z ht hi h1 kl kc (k : Int) (k : Int) (by omega) (Int.le_refl _) (by rw [h3]; have : ((bytes * k : Nat) : Int) = (bytes : Int) * (k : Int) := Int.natCast_mul _ _; omega) (by omega)
  rw [h2, Int.toNat_natCast] at h
  exact h
theorem made_one (z : Value) (hz : z.cells = #[z]) (k : Nat) : (madeCells z.cells (k * 1)).toList = List.replicate k z := by
  unfold madeCells
  rw [hz]
  apply List.ext_getElem?
  intro i
  simp only [Array.toList_map, Array.toList_range, List.getElem?_map, List.getElem?_replicate, Nat.mul_one]
  by_cases h : i < k
  · rw [List.getElem?_range h]; simp [h, Nat.mod_one]
  · rw [List.getElem?_eq_none (by simpa using Nat.le_of_not_lt h)]; simp [h]
/-- a row that is known whole is owned -/
theorem Own.of_block {b : Nat} {cur : Array Value} (hb : w.heap[b]? = some (.cells cur e (0, 0))) (k cap : Nat) (hk : k ≤ cap) (hm : cap ≤ maxLen) (hs : cur.size = cap * size) (h1 : ∀ u ∈ cur.toList.take (k * size), u.oneCell' = true) :
    Own e size w (some ⟨b, 0, none⟩) k cap (cur.toList.take (k * size)) :=
  ⟨by rw [List.length_take, Array.length_toList, hs]; exact Nat.min_eq_left (Nat.mul_le_mul_right _ hk), hk, hm, h1, .inr ⟨b, cur, rfl, hb, hs, rfl⟩⟩
end own
end Go.Proofs.YtacjkbljokjdkaaGreat.heap
namespace Go.Proofs.YtacjkbljokjdkaaGreat.rows
open Go.RowKit Go.Proofs.YtacjkbljokjdkaaGreat.heap
set_option linter.unusedVariables false

/-- nothing that was there has changed -/
abbrev Same (w w' : World) : Prop := Only (fun _ => False) w w'
theorem Same.trans {w w' w'' : World} (h : Same w w') (h' : Same w' w'') : Same w w'' := Only.trans h h' (fun _ _ f => f)

/-- an int -/
abbrev iv (n : Int) : Value := .int .i64 n
/-- a bool -/
abbrev bv (b : Bool) : Value := .bool b
section
variable {α : Type} {f : α → Value} {w w' : World} {a : Option Addr} {n cap : Nat} {l : List α}
/-- a slice whose elements are 'f x', x of the list l -/
def RL (f : α → Value) (w : World) (a : Option Addr) (n cap : Nat) (l : List α) : Prop := Rd 1 w a n cap (l.map f) ∧ l.length = n
/-- such a slice of the call's own -/
def OL (e : Nat) (f : α → Value) (w : World) (a : Option Addr) (n cap : Nat) (l : List α) : Prop := Own e 1 w a n cap (l.map f) ∧ l.length = n
theorem RL.keep {S : Nat → Prop} (h : RL f w a n cap l) (ho : Only S w w') (hn : ∀ k, At a k → ¬ S k) : RL f w' a n cap l := ⟨h.1.keep ho hn, h.2⟩
theorem RL.still (h : RL f w a n cap l) (ho : Same w w') : RL f w' a n cap l := h.keep ho (fun _ _ => id)
theorem RL.nil (f : α → Value) (w : World) : RL f w none 0 0 [] := ⟨Rd.nil w 1, rfl⟩
theorem RL.bound (h : RL f w a n cap l) : n ≤ cap ∧ cap ≤ 9223372036854775807 := h.1.bound
theorem RL.at (h : RL f w a n cap l) (h0 : 0 < n) : ∃ b off, a = some ⟨b, off, none⟩ ∧ b < w.heap.size ∧ ∀ i x, l[i]? = some x → w.cell? ⟨b, off + i, none⟩ = some (f x) := by
  obtain ⟨b, off, ha, hb, hc⟩ := h.1.cells h0
  exact ⟨b, off, ha, hb, fun i x hx => hc i _ (by rw [List.getElem?_map, hx]; rfl)⟩
theorem RL.get (h : RL f w a n cap l) {k : Nat} (hk : k < n) : ∃ x, l[k]? = some x := ⟨l[k]'(by rw [h.2]; exact hk), List.getElem?_eq_getElem _⟩
theorem OL.rl {e : Nat} (h : OL e f w a n cap l) : RL f w a n cap l := ⟨h.1.rd, h.2⟩
theorem OL.keep {e : Nat} {S : Nat → Prop} (h : OL e f w a n cap l) (ho : Only S w w') (hn : ∀ k, At a k → ¬ S k) : OL e f w' a n cap l := ⟨h.1.keep ho hn, h.2⟩
theorem OL.still {e : Nat} (h : OL e f w a n cap l) (ho : Same w w') : OL e f w' a n cap l := h.keep ho (fun _ _ => id)
theorem OL.nil (e : Nat) (f : α → Value) (w : World) : OL e f w none 0 0 [] := ⟨Own.nil e 1 w, rfl⟩
theorem OL.bound {e : Nat} (h : OL e f w a n cap l) : n ≤ cap ∧ cap ≤ 9223372036854775807 := h.1.bound
end

/-- a slice that is new is handed back -/
def NewL {α : Type} (e : Nat) (f : α → Value) (l : List α) (w : World) (en : Ending) (w' : World) : Prop :=
  ∃ a cap, en = .returned (.slice a l.length cap) ∧ OL e f w' a l.length cap l ∧ Same w w' ∧ ∀ k, At a k → w.heap.size ≤ k
/-- a value is handed back, nothing that was there has changed -/
def FV (w : World) (v : Value) (en : Ending) (w' : World) : Prop := en = .returned v ∧ Same w w'
theorem fv {P : Program} {f : FuncId} {args : Array Value} {w0 w : World} {v : Value} (hs : Same w0 w) (h : Calls P f args w (FV w v)) : Calls P f args w (FV w0 v) :=
  h.mono fun e w' ⟨he, hO⟩ => ⟨he, hs.trans hO⟩

theorem take_snoc {α : Type} (l : List α) (k : Nat) (s : α) (h : l[k]? = some s) : l.take (k + 1) = l.take k ++ [s] := by
  rw [List.take_add_one, h]; rfl
theorem new_only {w w' w'' : World} {S : Nat → Prop} (h : Same w w') (h' : Only S w' w'') (hs : ∀ k, S k → w.heap.size ≤ k) : Same w w'' :=
  Only.trans h h' (fun k hk s => absurd (hs k s) (by omega))
theorem heap_still {w w' : World} {b : Nat} {o : Obj} (h : Same w w') (hb : w.heap[b]? = some o) : w'.heap[b]? = some o := h.obj hb id
end Go.Proofs.YtacjkbljokjdkaaGreat.rows
namespace Go.Proofs.YtacjkbljokjdkaaGreat.rows
open Go.RowKit Go.Proofs.YtacjkbljokjdkaaGreat.heap
set_option linter.unusedVariables false

section
variable {α : Type} {c : α → List Value} {K : Nat}
theorem flat_len (hc : ∀ x, (c x).length = K) : ∀ l : List α, (l.flatMap c).length = l.length * K
  | [] => by simp
  | x :: l => by rw [List.flatMap_cons, List.length_append, hc, flat_len hc l, List.length_cons, Nat.add_mul]; omega
theorem flat_get (hc : ∀ x, (c x).length = K) : ∀ (l : List α) (i j : Nat) (x : α) (v : Value), l[i]? = some x → (c x)[j]? = some v → (l.flatMap c)[i * K + j]? = some v
  | [], i, j, x, v, h, _ => by simp at h
  | y :: l, 0, j, x, v, h, hv => by
    simp at h; subst h
    have hj : j < (c y).length := (List.getElem?_eq_some_iff.1 hv).1
    rw [List.flatMap_cons, Nat.zero_mul, Nat.zero_add, List.getElem?_append_left hj]
    exact hv
  | y :: l, i + 1, j, x, v, h, hv => by
    have := flat_get hc l i j x v (by simpa using h) hv
    rw [List.flatMap_cons, List.getElem?_append_right (by rw [hc, Nat.add_mul]; omega), hc]
    rw [show (i + 1) * K + j - K = i * K + j by rw [Nat.add_mul]; omega]
    exact this
theorem flat_one (h1 : ∀ x, ∀ u ∈ c x, u.oneCell' = true) (l : List α) : ∀ u ∈ l.flatMap c, u.oneCell' = true := fun u hu => by
  obtain ⟨x, _, hx⟩ := List.mem_flatMap.1 hu
  exact h1 x u hx
theorem flat_snoc (l : List α) (x : α) : (l ++ [x]).flatMap c = l.flatMap c ++ c x := by simp

variable {w w' : World} {a : Option Addr} {n cap e : Nat} {l : List α}
/-- a slice of structs that is read -/
def RS (c : α → List Value) (K : Nat) (w : World) (a : Option Addr) (n cap : Nat) (l : List α) : Prop := Rd K w a n cap (l.flatMap c) ∧ l.length = n
/-- such a slice of the call's own -/
def OS (e : Nat) (c : α → List Value) (K : Nat) (w : World) (a : Option Addr) (n cap : Nat) (l : List α) : Prop := Own e K w a n cap (l.flatMap c) ∧ l.length = n
theorem RS.keep {S : Nat → Prop} (h : RS c K w a n cap l) (ho : Only S w w') (hn : ∀ k, At a k → ¬ S k) : RS c K w' a n cap l := ⟨h.1.keep ho hn, h.2⟩
theorem RS.still (h : RS c K w a n cap l) (ho : Same w w') : RS c K w' a n cap l := h.keep ho (fun _ _ => id)
theorem RS.nil (c : α → List Value) (K : Nat) (w : World) : RS c K w none 0 0 [] := ⟨Rd.nil w K, rfl⟩
theorem RS.bound (h : RS c K w a n cap l) : n ≤ cap ∧ cap ≤ 9223372036854775807 := h.1.bound
theorem RS.at (hc : ∀ x, (c x).length = K) (h : RS c K w a n cap l) (h0 : 0 < n) :
    ∃ b off, a = some ⟨b, off, none⟩ ∧ b < w.heap.size ∧ ∀ i x, l[i]? = some x → ∀ j v, (c x)[j]? = some v → w.cell? ⟨b, off + i * K + j, none⟩ = some v := by
  obtain ⟨b, off, ha, hb, hcs⟩ := h.1.cells h0
  exact ⟨b, off, ha, hb, fun i x hx j v hv => by
    have := hcs _ _ (flat_get hc l i j x v hx hv)
    rwa [← Nat.add_assoc] at this⟩
theorem RS.get (h : RS c K w a n cap l) {k : Nat} (hk : k < n) : ∃ x, l[k]? = some x := ⟨l[k]'(by rw [h.2]; exact hk), List.getElem?_eq_getElem _⟩
theorem OS.rs (h : OS e c K w a n cap l) : RS c K w a n cap l := ⟨h.1.rd, h.2⟩
theorem OS.keep {S : Nat → Prop} (h : OS e c K w a n cap l) (ho : Only S w w') (hn : ∀ k, At a k → ¬ S k) : OS e c K w' a n cap l := ⟨h.1.keep ho hn, h.2⟩
theorem OS.still (h : OS e c K w a n cap l) (ho : Same w w') : OS e c K w' a n cap l := h.keep ho (fun _ _ => id)
theorem OS.nil (e : Nat) (c : α → List Value) (K : Nat) (w : World) : OS e c K w none 0 0 [] := ⟨Own.nil e K w, rfl⟩
theorem OS.bound (h : OS e c K w a n cap l) : n ≤ cap ∧ cap ≤ 9223372036854775807 := h.1.bound
end
theorem step_app {P : Program} {e size : TypeId} {w : World} {a0 : Option Addr} {n cap : Nat} {xs : List Value} {ops : Array Oper} {o : Oper} {fr : Act} {K : Act → World → Prop} {Q : Exit → Act → World → Prop} {E : Prop} (N : Nat) (XS : List Value) (hg : o.guard = none) (s x : Operand) (t tx : TypeId)
    (hop : o.op = .call { callee := .builtin .append, args := #[s, x], argTypes := #[t, tx] }) {bytes : Nat} (hT : SliceOf P t e size bytes)
    (hs : fr.eval s = .slice a0 n cap) (hown : Own e size w a0 n cap xs) {v : Value} {m : Nat} {news : List Value} (hx : fr.eval x = v) (hsrc : Src P size tx v m news w)
    (hN : n + m = N) (hX : xs ++ news = XS) (h63 : N ≤ maxLen) (hbytes : N * bytes ≤ 140737488355328)
    (hK : ∀ a' cap' w', Grew e size w w' a0 a' m N cap cap' XS → K (fr.put o.dst (.slice a' N cap')) w') :
    if Region.wanted o (yielded ops fr.tmps) = true then Oper.wp P o fr w K Q else E := by
  have hw : Region.wanted o (yielded ops fr.tmps) = true := by simp [Region.wanted, hg]
  rw [if_pos hw]
  subst hN
  subst hX
  obtain ⟨ht, i, z, hi, hz, hsize, hby, hzs⟩ := hT
  obtain ⟨a', cap', w', hr, h1, h2, h3, h4, h5⟩ := run_append (P := P) (ty := o.type) ht hi hz hsize hby hzs hown hsrc h63 hbytes
  unfold Oper.wp execOp
  simp only [hop, resolve, invoke, builtin, Sem.run_bind, Sem.run_pure, Result.andThen_ok, List.map_toArray, List.map_cons, List.map_nil, hs, hx, hr]
  exact hK _ _ _ ⟨h1, h2, h3, h4, h5⟩
end Go.Proofs.YtacjkbljokjdkaaGreat.rows
namespace Go.Proofs.YtacjkbljokjdkaaGreat.heap
open Go.RowKit
section
variable {P : Program} {e size : Nat} {w w' : World} {a : Option Addr} {n cap : Nat} {xs : List Value}
theorem run_append_full {t tx ty : TypeId} {i : TypeInfo} {z : Value} {bytes m : Nat} {x : Value} {news : List Value} (ht : P.underlying t = some (.slice e)) (hi : P.info? e = some i) (hz : i.zero = some z)
    (hsize : i.size = size) (hby : i.bytes = bytes) (hzs : z.cells.size = size) (hrd : Rd size w a n n xs) (hm : 0 < m) (hs : Src P size tx x m news w) (h63 : n + m ≤ maxLen) (hbytes : (n + m) * bytes ≤ 140737488355328) :
    ∃ a' cap' w', (Builtin.append_ #[t, tx] ty #[.slice a n n, x]).run P w = .ok (.slice a' (n + m) cap') w' ∧ Own e size w' a' (n + m) cap' (xs ++ news) ∧ Only (fun _ => False) w w' ∧ ∀ k, At a' k → w.heap.size ≤ k := by
  subst hsize
  subst hby
  have hone : ∀ u ∈ xs ++ news, u.oneCell' = true := fun u hu => (List.mem_append.1 hu).elim (hrd.one u) (hs.one u)
  have hlen : (xs ++ news).length = (n + m) * i.size := by rw [List.length_append, hrd.len, hs.newsLen, Nat.add_mul]
  have hsmall : n + m ≤ 9223372036854775807 := by simp only [maxLen] at h63; omega
  have hold : (Builtin.firstCells i.size n (.slice a n n)).run P w.drew = .ok xs.toArray w.drew := by
    cases a with
    | none =>
      have h0 : n = 0 := hrd.nilcap rfl
      subst h0
      have hx : xs = [] := List.eq_nil_of_length_eq_zero (by simpa using hrd.len)
      subst hx
      exact run_firstCells_none _ _ _ _ _
    | some ad =>
      rcases Nat.eq_zero_or_pos n with rfl | hp
      · refine run_firstCells_some (P := P) w.drew i.size 0 _ 0 0 xs hrd.len fun j v hj => ?_
        have : xs = [] := List.eq_nil_of_length_eq_zero (by simpa using hrd.len)
        subst this; simp at hj
      · obtain ⟨b', off', he, _, hc⟩ := hrd.cells hp
        cases he
        refine run_firstCells_some (P := P) w.drew i.size n _ n n xs hrd.len fun j v hj => ?_
        rw [Addr.add_lit]
        exact hc j v hj
  have hge := grownCap_ge w (n + m) n e
  have hcm : grownCap w (n + m) n e ≤ maxLen := grownCap_le_maxLen w (n + m) n e h63
  have hr := run_append_grow_src (P := P) w t tx ty e i z ht hi hz a n n xs hold x m news hs (by omega) (by omega) (growslice_fits (by omega) hbytes)
  have htake : ((xs ++ news).toArray ++ Builtin.zeroCells z.cells (grownCap w (n + m) n e - (n + m))).toList.take ((n + m) * i.size) = xs ++ news := by
    rw [Array.toList_append]
    simp only [← hlen]
    exact List.take_left
  refine ⟨_, _, _, hr, ?_, ((Only.refl _ w).drew).alloc _, fun k hk => by have : w.heap.size = k := hk; omega⟩
  have hmm := Own.made e i.size w.drew ((xs ++ news).toArray ++ Builtin.zeroCells z.cells (grownCap w (n + m) n e - (n + m))) (n + m) (grownCap w (n + m) n e) hge hcm (by
    simp only [Array.size_append, List.size_toArray, size_zeroCells, hzs, hlen, ← Nat.add_mul]
    congr 1
    omega) (by rw [htake]; exact hone)
  rw [htake] at hmm
  exact hmm

structure Full (e size : Nat) (w w' : World) (a' : Option Addr) (N cap' : Nat) (XS : List Value) : Prop where
  own : Own e size w' a' N cap' XS
  only : Only (fun _ => False) w w'
  fresh : ∀ k, At a' k → w.heap.size ≤ k

theorem step_append_full {ops : Array Oper} {o : Oper} {fr : Act} {K : Act → World → Prop} {Q : Exit → Act → World → Prop} {E : Prop} (N : Nat) (XS : List Value) (hg : o.guard = none) (s x : Operand) (t tx : TypeId)
    (hop : o.op = .call { callee := .builtin .append, args := #[s, x], argTypes := #[t, tx] }) {bytes : Nat} (hT : SliceOf P t e size bytes)
    (hs : fr.eval s = .slice a n n) (hrd : Rd size w a n n xs) {v : Value} {m : Nat} {news : List Value} (hx : fr.eval x = v) (hsrc : Src P size tx v m news w) (hm : 0 < m)
    (hN : n + m = N) (hX : xs ++ news = XS) (h63 : N ≤ maxLen) (hbytes : N * bytes ≤ 140737488355328)
    (hK : ∀ a' cap' w', Full e size w w' a' N cap' XS → K (fr.put o.dst (.slice a' N cap')) w') :
    if Region.wanted o (yielded ops fr.tmps) = true then Oper.wp P o fr w K Q else E := by
  have hw : Region.wanted o (yielded ops fr.tmps) = true := by simp [Region.wanted, hg]
  rw [if_pos hw]
  subst hN
  subst hX
  obtain ⟨ht, i, z, hi, hz, hsize, hby, hzs⟩ := hT
  obtain ⟨a', cap', w', hr, h1, h2, h3⟩ := run_append_full (P := P) (ty := o.type) ht hi hz hsize hby hzs hrd hm hsrc h63 hbytes
  unfold Oper.wp execOp
  simp only [hop, resolve, invoke, builtin, Sem.run_bind, Sem.run_pure, Result.andThen_ok, List.map_toArray, List.map_cons, List.map_nil, hs, hx, hr]
  exact hK _ _ _ ⟨h1, h2, h3⟩
theorem Rd.cut (h : Rd size w a n cap xs) : Rd size w a n n xs := ⟨h.len, Nat.le_refl _, Nat.le_trans h.le h.max, h.one, h.cells, fun e => by have := h.nilcap e; have := h.le; omega⟩
end
end Go.Proofs.YtacjkbljokjdkaaGreat.heap
namespace Go.Proofs.YtacjkbljokjdkaaGreat.heap
open Go.RowKit Go.Proofs.YtacjkbljokjdkaaGreat.rows
section
variable {P : Program} {e size : Nat} {w w' : World} {a : Option Addr} {n cap : Nat} {xs : List Value}
theorem Rd.take (h : Rd size w a n cap xs) {k c : Nat} (hk : k ≤ n) (hc : k ≤ c) (hc2 : c ≤ cap) : Rd size w a k c (xs.take (k * size)) :=
  ⟨by rw [List.length_take, h.len]; exact Nat.min_eq_left (Nat.mul_le_mul_right _ hk), hc, Nat.le_trans hc2 h.max, fun u hu => h.one u (List.mem_of_mem_take hu), fun h0 => by
    obtain ⟨b, off, ha, hb, hcs⟩ := h.cells (by omega)
    exact ⟨b, off, ha, hb, hcs.take _⟩, fun e => by have := h.nilcap e; omega⟩
theorem Rd.drop {b off : Nat} (h : Rd size w (some ⟨b, off, none⟩) n cap xs) {k : Nat} (hk : k ≤ n) : Rd size w (some ⟨b, off + k * size, none⟩) (n - k) (cap - k) (xs.drop (k * size)) :=
  ⟨by rw [List.length_drop, h.len, Nat.sub_mul], by have := h.le; omega, by have := h.max; omega, fun u hu => h.one u (List.mem_of_mem_drop hu), fun h0 => by
    obtain ⟨b', off', ha, hb, hcs⟩ := h.cells (by omega)
    cases ha
    exact ⟨_, _, rfl, hb, hcs.drop _⟩, fun e => by cases e⟩
theorem flatMap_take {α : Type} {c : α → List Value} {K : Nat} (hc : ∀ x, (c x).length = K) : ∀ (l : List α) (k : Nat), (l.take k).flatMap c = (l.flatMap c).take (k * K)
  | [], k => by simp
  | x :: l, 0 => by simp
  | x :: l, k + 1 => by
    rw [List.take_succ_cons, List.flatMap_cons, List.flatMap_cons, flatMap_take hc l k, Nat.add_mul, Nat.one_mul, Nat.add_comm, ← hc x, List.take_length_add_append]
theorem flatMap_drop {α : Type} {c : α → List Value} {K : Nat} (hc : ∀ x, (c x).length = K) : ∀ (l : List α) (k : Nat), (l.drop k).flatMap c = (l.flatMap c).drop (k * K)
  | [], k => by simp
  | x :: l, 0 => by simp
  | x :: l, k + 1 => by
    rw [List.drop_succ_cons, List.flatMap_cons, flatMap_drop hc l k, Nat.add_mul, Nat.one_mul, Nat.add_comm, ← hc x, List.drop_length_add_append]
/-- what such an append leaves -/
structure App (size : Nat) (w w' : World) (a' : Option Addr) (N cap' : Nat) (XS : List Value) : Prop where
  rd : Rd size w' a' N cap' XS
  same : Same w w'
theorem run_append_any {t tx ty : TypeId} {i : TypeInfo} {z : Value} {bytes m : Nat} {x : Value} {news : List Value} (ht : P.underlying t = some (.slice e)) (hi : P.info? e = some i) (hz : i.zero = some z)
    (hsize : i.size = size) (hby : i.bytes = bytes) (hzs : z.cells.size = size) (hrd : Rd size w a n n xs) (hs : Src P size tx x m news w) (h63 : n + m ≤ maxLen) (hbytes : (n + m) * bytes ≤ 140737488355328) :
    ∃ a' cap' w', (Builtin.append_ #[t, tx] ty #[.slice a n n, x]).run P w = .ok (.slice a' (n + m) cap') w' ∧ App size w w' a' (n + m) cap' (xs ++ news) := by
  rcases Nat.eq_zero_or_pos m with rfl | hm
  · have hn : news = [] := List.eq_nil_of_length_eq_zero (by simpa using hs.newsLen)
    subst hn
    refine ⟨a, n, w, ?_, ⟨by rw [List.append_nil]; exact hrd, Only.refl _ _⟩⟩
    subst hsize
    rcases hs.kind with ⟨e', hk⟩ | hk <;> cases a <;> simp [Builtin.append_, run_underlying ht, run_underlying hk, sizeOf, typeInfo, hi, hs.len, hs.cells, storeCells]
  · obtain ⟨a', cap', w', hr, h1, h2, _⟩ := run_append_full (P := P) (ty := ty) ht hi hz hsize hby hzs hrd hm hs h63 hbytes
    exact ⟨a', cap', w', hr, ⟨h1.rd, h2⟩⟩
theorem step_append_any {ops : Array Oper} {o : Oper} {fr : Act} {K : Act → World → Prop} {Q : Exit → Act → World → Prop} {E : Prop} (N : Nat) (XS : List Value) (hg : o.guard = none) (s x : Operand) (t tx : TypeId)
    (hop : o.op = .call { callee := .builtin .append, args := #[s, x], argTypes := #[t, tx] }) {bytes : Nat} (hT : SliceOf P t e size bytes)
    (hs : fr.eval s = .slice a n n) (hrd : Rd size w a n n xs) {v : Value} {m : Nat} {news : List Value} (hx : fr.eval x = v) (hsrc : Src P size tx v m news w)
    (hN : n + m = N) (hX : xs ++ news = XS) (h63 : N ≤ maxLen) (hbytes : N * bytes ≤ 140737488355328)
    (hK : ∀ a' cap' w', App size w w' a' N cap' XS → K (fr.put o.dst (.slice a' N cap')) w') :
    if Region.wanted o (yielded ops fr.tmps) = true then Oper.wp P o fr w K Q else E := by
  have hw : Region.wanted o (yielded ops fr.tmps) = true := by simp [Region.wanted, hg]
  rw [if_pos hw]
  subst hN
  subst hX
  obtain ⟨ht, i, z, hi, hz, hsize, hby, hzs⟩ := hT
  obtain ⟨a', cap', w', hr, h1⟩ := run_append_any (P := P) (ty := o.type) ht hi hz hsize hby hzs hrd hsrc h63 hbytes
  unfold Oper.wp execOp
  simp only [hop, resolve, invoke, builtin, Sem.run_bind, Sem.run_pure, Result.andThen_ok, List.map_toArray, List.map_cons, List.map_nil, hs, hx, hr]
  exact hK _ _ _ h1
theorem wpList_append_any {ops : Array Oper} {rest : List Oper} {o : Oper} {fr : Act} {Q : Exit → Act → World → Prop} (N : Nat) (XS : List Value) (hg : o.guard = none) (s x : Operand) (t tx : TypeId)
    (hop : o.op = .call { callee := .builtin .append, args := #[s, x], argTypes := #[t, tx] }) {bytes : Nat} (hT : SliceOf P t e size bytes)
    (hs : fr.eval s = .slice a n n) (hrd : Rd size w a n n xs) {v : Value} {m : Nat} {news : List Value} (hx : fr.eval x = v) (hsrc : Src P size tx v m news w)
    (hN : n + m = N) (hX : xs ++ news = XS) (h63 : N ≤ maxLen) (hbytes : N * bytes ≤ 140737488355328)
    (hK : ∀ a' cap' w', App size w w' a' N cap' XS → wpList P ops Q rest (fr.put o.dst (.slice a' N cap')) w') : wpList P ops Q (o :: rest) fr w := by
  subst hN
  subst hX
  obtain ⟨ht, i, z, hi, hz, hsize, hby, hzs⟩ := hT
  refine wpList_plain hg fun K hK' => ?_
  obtain ⟨a', cap', w', hr, h1⟩ := run_append_any (P := P) (ty := o.type) ht hi hz hsize hby hzs hrd hsrc h63 hbytes
  unfold Oper.wp execOp
  simp only [hop, resolve, invoke, builtin, Sem.run_bind, Sem.run_pure, Result.andThen_ok, List.map_toArray, List.map_cons, List.map_nil, hs, hx, hr]
  exact hK' _ _ (hK a' cap' w' h1)
end
end Go.Proofs.YtacjkbljokjdkaaGreat.heap
namespace Go.Proofs.YtacjkbljokjdkaaGreat.rows
open Go.ChangeShapes Go.WideShapes Go.ChangeAt Go.RowKit Go.Proofs.YtacjkbljokjdkaaGreat.base Go.Proofs.YtacjkbljokjdkaaGreat.heap
set_option linter.unusedVariables false

/-- cells that read as a value of a type -/
def T (P : Program) (W : World) (t : TypeId) (cs : List Value) : Prop :=
  ∃ (H : Type) (enc : TypeId × Value → H) (fuel : Nat) (x : DataW H × List MemPlace), DataW.trod enc P W 0 (fun _ => true) true fuel t cs = some x
section
variable {P : Program} {W : World} {t e : TypeId} {k : IntKind} {v : Value} {cs : List Value}
theorem T.int (h : T P W t [v]) (ht : P.underlying t = some (.int k)) : ∃ n, v = .int k n ∧ (Lit.int k n).wf = true := by
  obtain ⟨H, enc, fuel, x, hx⟩ := h
  obtain ⟨z, hz, _, hw⟩ := DataW.trod_int ht hx
  simp at hz
  exact ⟨z, hz, hw⟩
theorem T.bool (h : T P W t [v]) (ht : P.underlying t = some .bool) : ∃ b, v = .bool b := by
  obtain ⟨H, enc, fuel, x, hx⟩ := h
  obtain ⟨z, hz, _⟩ := DataW.trod_bool ht hx
  simp at hz
  exact ⟨z, hz⟩
/-- the fields of a struct -/
theorem T.field (h : T P W t cs) {fs : Array Field} (ht : P.underlying t = some (.struct fs)) (j : Nat) (f : Field) (hf : fs[j]? = some f) : T P W f.type ((cs.drop f.offset).take (P.cellsOf f.type)) := by
  obtain ⟨H, enc, fuel, x, hx⟩ := h
  obtain ⟨xs, k', hk, hxy, _, hxl, hff⟩ := DataW.trod_struct ht hx
  have hj : j < fs.size := (Array.getElem?_eq_some_iff.1 hf).1
  exact ⟨H, enc, k', _, (hff j f hf).trans (List.getElem?_eq_getElem (by omega))⟩
theorem list_of {α : Type} (n : Nat) (p : Nat → α → Prop) (h : ∀ i, i < n → ∃ s, p i s) : ∃ l : List α, l.length = n ∧ ∀ i s, l[i]? = some s → p i s := by
  induction n with
  | zero => exact ⟨[], rfl, fun i s h => by simp at h⟩
  | succ n ih =>
    obtain ⟨l, hl, hp⟩ := ih (fun i hi => h i (by omega))
    obtain ⟨s, hs⟩ := h n (by omega)
    refine ⟨l ++ [s], by simp [hl], fun i t ht => ?_⟩
    by_cases hi : i < n
    · rw [List.getElem?_append_left (by omega)] at ht
      exact hp i t ht
    · rw [List.getElem?_append_right (by omega)] at ht
      by_cases e : i = n
      · subst e
        rw [hl, Nat.sub_self] at ht
        simp at ht
        subst ht
        exact hs
      · rw [List.getElem?_eq_none (by simp; omega)] at ht
        cases ht
/-- a slice whose elements are written by c -/
theorem T.slice {α : Type} {c : α → List Value} {K : Nat} (p : α → Prop) (hc : ∀ x, (c x).length = K) (h1 : ∀ x, ∀ u ∈ c x, u.oneCell' = true) (hK : 0 < K) (ht : P.underlying t = some (.slice e)) (hce : P.cellsOf e = K)
    (hdec : ∀ cs : List Value, cs.length = K → T P W e cs → ∃ x : α, cs = c x ∧ p x) (h : T P W t [v]) :
    ∃ (a : Option Addr) (n cap : Nat) (l : List α), v = .slice a n cap ∧ RS c K W a n cap l ∧ ∀ x ∈ l, p x := by
  obtain ⟨H, enc, fuel, x, hf⟩ := h
  rcases Go.Deep.open_slice ht hf with ⟨hcs, _⟩ | ⟨x, n, cap, m, k, D, Pl, hcs, hb, hl, hm, hmm, _, hx⟩
  · simp at hcs
    exact ⟨none, 0, 0, [], hcs, RS.nil _ _ _, fun s hs => (nomatch hs)⟩
  · simp at hcs
    have hlm : n ≤ m := by rw [hmm]; split <;> omega
    obtain ⟨l, hll, hp⟩ := list_of (α := α) n (fun i s => (∀ j v, (c s)[j]? = some v → W.cell? (x.add (i * K + j)) = some v) ∧ p s) (fun i hi => by
      obtain ⟨cs', h1, h2⟩ := hx i (by omega)
      rw [hce] at h1
      obtain ⟨_, hlen, hcell⟩ := World.cells?_some h1
      obtain ⟨y, rfl, hy⟩ := hdec cs' hlen ⟨H, enc, _, _, h2⟩
      refine ⟨y, fun j v hj => ?_, hy⟩
      have hjl : j < (c y).length := (List.getElem?_eq_some_iff.1 hj).1
      have := hcell j (by rw [← hlen]; exact hjl)
      rw [Go.Deep.add_add] at this
      rw [this]
      exact hj)
    refine ⟨some x, n, cap, l, hcs, ⟨⟨by rw [flat_len hc, hll], hl, hm, flat_one h1 l, fun h0 => ?_, fun h => by cases h⟩, hll⟩, fun s hs => ?_⟩
    · obtain ⟨b, off, spot⟩ := x
      obtain ⟨s0, hs0⟩ : ∃ s, l[0]? = some s := ⟨l[0]'(by omega), List.getElem?_eq_getElem _⟩
      obtain ⟨v0, hv0⟩ : ∃ v, (c s0)[0]? = some v := ⟨(c s0)[0]'(by rw [hc]; exact hK), List.getElem?_eq_getElem _⟩
      have h1 := (hp 0 s0 hs0).1 0 v0 hv0
      have hsp : spot = none := by simpa [Addr.add] using World.cell?_spot h1
      subst hsp
      have h2 : W.cell? ⟨b, off, none⟩ = some v0 := by simpa [Addr.add] using h1
      refine ⟨b, off, rfl, World.block_lt_of_cell? W _ h2, fun j v hj => ?_⟩
      have hjl : j < (l.flatMap c).length := (List.getElem?_eq_some_iff.1 hj).1
      rw [flat_len hc] at hjl
      have hq : j / K < l.length := (Nat.div_lt_iff_lt_mul hK).2 hjl
      obtain ⟨s, hs⟩ : ∃ s, l[j / K]? = some s := ⟨l[j / K], List.getElem?_eq_getElem _⟩
      have hr : j % K < K := Nat.mod_lt _ hK
      obtain ⟨u, hu⟩ : ∃ u, (c s)[j % K]? = some u := ⟨(c s)[j % K]'(by rw [hc]; exact hr), List.getElem?_eq_getElem _⟩
      have e1 := flat_get hc l _ _ s u hs hu
      have e2 := (hp _ s hs).1 _ u hu
      have e3 : j / K * K + j % K = j := by rw [Nat.mul_comm]; exact Nat.div_add_mod j K
      rw [e3] at e1 e2
      rw [e1] at hj
      cases hj
      rw [Addr.add_lit] at e2
      exact e2
    · obtain ⟨i, hi⟩ := List.mem_iff_getElem?.1 hs
      exact (hp i s hi).2
theorem RS.rl {α : Type} {f : α → Value} {w : World} {a : Option Addr} {n cap : Nat} {l : List α} (h : RS (fun x => [f x]) 1 w a n cap l) : RL f w a n cap l := by
  have e : l.flatMap (fun x => [f x]) = l.map f := by
    clear h
    induction l with
    | nil => rfl
    | cons x l ih => rw [List.flatMap_cons, ih]; rfl
  exact ⟨by rw [← e]; exact h.1, h.2⟩
theorem reads_t (h : Reads P W t v) (ht : P.underlying t = some (.slice e)) : T P W t [v] := by
  obtain ⟨base, H, enc, d, ps, hv, fuel, hf⟩ := h
  obtain ⟨a, n, cap, rfl⟩ := okWide_slice ht hv
  exact ⟨H, enc, fuel, _, by simpa [Value.cells] using hf⟩
end
end Go.Proofs.YtacjkbljokjdkaaGreat.rows
namespace Go.Proofs.YtacjkbljokjdkaaGreat.rows
open Go.ChangeShapes Go.WideShapes Go.ChangeAt Go.RowKit Go.Proofs.YtacjkbljokjdkaaGreat.base Go.Proofs.YtacjkbljokjdkaaGreat.heap
set_option linter.unusedVariables false
section
variable {P : Program} {W : World} {t e : TypeId} {k : IntKind} {v : Value}
theorem okWide_arr {r : Reach} {base n : Nat} (ht : P.underlying t = some (.array n e)) (h : Value.okWide P W r base t v) : ∃ cs, v = .agg cs ∧ cs.size = P.cellsOf t := by
  simp only [Value.okWide, ht] at h
  obtain ⟨cs, h1, h2, _⟩ := h
  exact ⟨cs, h1, h2⟩
theorem reads_pair (h : Reads P W t v) (ht : P.underlying t = some (.array 2 e)) (he : P.underlying e = some (.int k)) (hc : P.cellsOf e = 1) (hC : P.cellsOf t = 2) :
    ∃ n m, v = .agg #[.int k n, .int k m] ∧ (Lit.int k n).wf = true ∧ (Lit.int k m).wf = true := by
  obtain ⟨base, H, enc, d, ps, hv, fuel, hf⟩ := h
  obtain ⟨cs, rfl, hs⟩ := okWide_arr ht hv
  rw [hC] at hs
  obtain ⟨c0, c1, rfl⟩ : ∃ c0 c1, cs = #[c0, c1] := by
    rcases cs with ⟨l⟩
    match l, hs with
    | [c0, c1], _ => exact ⟨c0, c1, rfl⟩
  obtain ⟨xs, m, rfl, _, hl, hlen, hg⟩ := DataW.trod_array ht hf
  have g0 := hg 0 (by omega)
  have g1 := hg 1 (by omega)
  rw [hc, List.getElem?_eq_getElem (by omega)] at g0 g1
  obtain ⟨cl, hcl⟩ : ∃ cl, (Value.agg #[c0, c1]).cells.toList = cl := ⟨_, rfl⟩
  rw [hcl] at g0 g1 hl
  obtain ⟨z0, hz0, _, hw0⟩ := DataW.trod_int he g0
  obtain ⟨z1, hz1, _, hw1⟩ := DataW.trod_int he g1
  rw [hC] at hl
  match cl, hl with
  | [u0, u1], _ =>
    simp at hz0 hz1
    subst hz0
    subst hz1
    simp [Value.cells] at hcl
    obtain ⟨rfl, rfl⟩ := hcl
    exact ⟨z0, z1, rfl, hw0, hw1⟩
/-- the numbers of a row, as a list -/
theorem isRow_list {w : World} {a : Option Addr} {len cap : Nat} {zs : List Int} (h : IsRow k w a len cap zs) : RL (fun x : Int => Value.int k x) w a len cap (zs.take len) := by
  have hle := h.le
  refine ⟨⟨?_, hle.1, by unfold maxLen; omega, fun u hu => ?_, fun h0 => ?_, fun ha => ?_⟩, ?_⟩
  · simp; omega
  · obtain ⟨x, _, rfl⟩ := List.mem_map.1 hu; rfl
  · obtain ⟨b, off, ha, hl, hb, hc⟩ := h.cells h0
    refine ⟨b, off, ha, hb, fun j v hj => ?_⟩
    rw [List.getElem?_map] at hj
    cases hx : (zs.take len)[j]? with
    | none => rw [hx] at hj; cases hj
    | some x =>
      rw [hx] at hj
      have hjl := (List.getElem?_eq_some_iff.1 hx).1
      rw [List.length_take] at hjl
      rw [List.getElem?_take, if_pos (by omega)] at hx
      have := hc j (by omega)
      rw [List.getD_eq_getElem?_getD, hx] at this
      rw [this]; exact hj
  · rcases h with ⟨_, _, hc, _⟩ | ⟨x, hx, _⟩
    · exact hc
    · rw [hx] at ha; cases ha
  · simp; omega
theorem RL.nat {w : World} {a : Option Addr} {len cap : Nat} {zs : List Int} (h : RL (fun x : Int => Value.int k x) w a len cap zs) (h0 : ∀ x ∈ zs, 0 ≤ x) : RL (fun x : Nat => Value.int k (x : Int)) w a len cap (zs.map Int.toNat) := by
  refine ⟨?_, by rw [List.length_map]; exact h.2⟩
  have e : (zs.map Int.toNat).map (fun x : Nat => Value.int k (x : Int)) = zs.map (fun x : Int => Value.int k x) := by
    rw [List.map_map]
    refine List.map_congr_left fun x hx => ?_
    have := h0 x hx
    show Value.int k ((x.toNat : Nat) : Int) = Value.int k x
    rw [Int.toNat_of_nonneg this]
  rw [e]; exact h.1
/-- a slice of numbers without a sign -/
theorem reads_nums (h : Reads P W t v) (ht : P.underlying t = some (.slice e)) (he : P.underlying e = some (.int k)) (hc : P.cellsOf e = 1) (hk : ∀ n : Int, (Lit.int k n).wf = true → 0 ≤ n) :
    ∃ a len cap l, v = .slice a len cap ∧ RL (fun x : Nat => Value.int k (x : Int)) W a len cap l ∧ ∀ x ∈ l, (Lit.int k ((x : Nat) : Int)).wf = true := by
  obtain ⟨a, len, cap, zs, hv, hr⟩ := h.ints ht he hc
  have hw : ∀ x ∈ zs.take len, (Lit.int k x).wf = true := fun x hx => by
    have hx' := List.mem_of_mem_take hx
    rcases hr with ⟨_, _, _, rfl⟩ | ⟨_, _, _, _, _, _, hw⟩
    · cases hx'
    · exact hw x hx'
  refine ⟨a, len, cap, (zs.take len).map Int.toNat, hv, RL.nat (isRow_list hr) (fun x hx => hk x (hw x hx)), fun x hx => ?_⟩
  obtain ⟨y, hy, rfl⟩ := List.mem_map.1 hx
  rw [Int.toNat_of_nonneg (hk y (hw y hy))]
  exact hw y hy
end
end Go.Proofs.YtacjkbljokjdkaaGreat.rows
namespace Go.Proofs.YtacjkbljokjdkaaGreat.bit

/-- a number of 64 bits -/
def Lt64 (x : Nat) : Prop := x < 18446744073709551616
theorem lt64_iff (x : Nat) : Lt64 x ↔ x < 2 ^ 64 := by unfold Lt64; rw [show (2 : Nat) ^ 64 = 18446744073709551616 from by decide]
theorem lt64_or {x y : Nat} (h : Lt64 x) (k : Lt64 y) : Lt64 (x ||| y) := by rw [lt64_iff] at *; exact Nat.or_lt_two_pow h k
theorem lt64_and {x y : Nat} (h : Lt64 x) : Lt64 (x &&& y) := Nat.lt_of_le_of_lt Nat.and_le_left h
theorem lt64_xor {x y : Nat} (h : Lt64 x) (k : Lt64 y) : Lt64 (x ^^^ y) := by rw [lt64_iff] at *; exact Nat.xor_lt_two_pow h k
theorem lt64_pow {k : Nat} (h : k < 64) : Lt64 (2 ^ k) := by rw [lt64_iff]; exact Nat.pow_lt_pow_right (by omega) h
theorem lt64_zero : Lt64 0 := by unfold Lt64; omega
theorem lt64_div {x y : Nat} (h : Lt64 x) : Lt64 (x / y) := Nat.lt_of_le_of_lt (Nat.div_le_self _ _) h

/-- every word has 64 bits -/
def Ok (ws : List Nat) : Prop := ∀ x ∈ ws, Lt64 x
theorem Ok.at {ws : List Nat} (h : Ok ws) (i : Nat) : Lt64 (ws.getD i 0) := by
  by_cases hi : i < ws.length
  · rw [show ws.getD i 0 = ws[i] from by simp [hi]]; exact h _ (List.getElem_mem hi)
  · rw [show ws.getD i 0 = 0 from by simp [Nat.le_of_not_lt hi]]; exact lt64_zero
theorem Ok.set {ws : List Nat} (h : Ok ws) (i : Nat) {x : Nat} (hx : Lt64 x) : Ok (ws.set i x) := by
  intro y hy
  rcases List.mem_or_eq_of_mem_set hy with hy | rfl
  · exact h y hy
  · exact hx
theorem Ok.append {l r : List Nat} (h : Ok l) (k : Ok r) : Ok (l ++ r) := fun x hx => (List.mem_append.1 hx).elim (h x) (k x)
theorem Ok.take {l : List Nat} (h : Ok l) (n : Nat) : Ok (l.take n) := fun x hx => h x (List.mem_of_mem_take hx)
theorem Ok.drop {l : List Nat} (h : Ok l) (n : Nat) : Ok (l.drop n) := fun x hx => h x (List.mem_of_mem_drop hx)
theorem Ok.zeros (n : Nat) : Ok (List.replicate n 0) := fun x hx => by rw [List.eq_of_mem_replicate hx]; exact lt64_zero

/-- bit i of words -/
def bit (ws : List Nat) (i : Nat) : Bool := (ws.getD (i / 64) 0).testBit (i % 64)

theorem bit_far (ws : List Nat) (i : Nat) (h : 64 * ws.length ≤ i) : bit ws i = false := by
  unfold bit
  rw [show ws.getD (i / 64) 0 = 0 from by simp only [List.getD_eq_getElem?_getD]; rw [List.getElem?_eq_none (by omega)]; rfl]
  simp
theorem bit_zeros (n i : Nat) : bit (List.replicate n 0) i = false := by
  unfold bit
  have : (List.replicate n 0).getD (i / 64) 0 = 0 := by
    simp only [List.getD_eq_getElem?_getD, List.getElem?_replicate]
    split <;> rfl
  rw [this]; simp
theorem testBit_far {x k : Nat} (h : Lt64 x) (hk : 64 ≤ k) : x.testBit k = false := by
  rw [lt64_iff] at h
  exact Nat.testBit_lt_two_pow (Nat.lt_of_lt_of_le h (Nat.pow_le_pow_right (by omega) hk))

theorem getD_set (ws : List Nat) (k j x : Nat) : (ws.set k x).getD j 0 = if k = j ∧ j < ws.length then x else ws.getD j 0 := by
  simp only [List.getD_eq_getElem?_getD, List.getElem?_set]
  by_cases h : k = j
  · subst h
    by_cases h2 : k < ws.length <;> simp [h2]
  · simp [h]

/-- a word is written -/
theorem bit_set (ws : List Nat) (k x i : Nat) (hk : k < ws.length) : bit (ws.set k x) i = if i / 64 = k then x.testBit (i % 64) else bit ws i := by
  unfold bit
  rw [getD_set]
  by_cases h : i / 64 = k
  · subst h; rw [if_pos ⟨rfl, hk⟩, if_pos rfl]
  · rw [if_neg (fun hh => h hh.1.symm), if_neg h]

theorem tb_pow (k j : Nat) : (2 ^ k).testBit j = decide (k = j) := Nat.testBit_two_pow

theorem bit_or (ws : List Nat) (i j : Nat) (hi : i / 64 < ws.length) : bit (ws.set (i / 64) (ws.getD (i / 64) 0 ||| 2 ^ (i % 64))) j = (bit ws j || decide (j = i)) := by
  rw [bit_set _ _ _ _ hi]
  by_cases h : j / 64 = i / 64
  · rw [if_pos h, Nat.testBit_or, tb_pow]
    unfold bit
    rw [h]
    congr 1
    by_cases h2 : j = i
    · subst h2; simp
    · have : i % 64 ≠ j % 64 := by omega
      simp [h2, this]
  · rw [if_neg h]
    have : j ≠ i := by intro e; subst e; exact h rfl
    simp [this]

theorem and_pow (w k : Nat) : (w &&& 2 ^ k = 0) = (w.testBit k = false) := by
  rw [nat_bit]
  have h := Nat.testBit_eq_decide_div_mod_eq (x := w) (i := k)
  have hp : 0 < 2 ^ k := Nat.pow_pos (by omega)
  have hx : w / 2 ^ k % 2 = 0 ∨ w / 2 ^ k % 2 = 1 := by omega
  rcases hx with hx | hx
  · simp [h, hx]
  · rw [hx, h, hx]; simp

/-- the places below k of the bits that are set -/
def onesTo (b : List Bool) (k : Nat) : List Nat := (List.range k).filter fun i => b.getD i false
def ones (b : List Bool) : List Nat := onesTo b b.length

theorem onesTo_succ (b : List Bool) (k : Nat) : onesTo b (k + 1) = onesTo b k ++ if b.getD k false then [k] else [] := by
  unfold onesTo
  rw [List.range_succ, List.filter_append]
  rw [List.filter_cons]
  cases b.getD k false <;> rfl
theorem onesTo_yes (b : List Bool) (k : Nat) (h : b.getD k false = true) : onesTo b (k + 1) = onesTo b k ++ [k] := by rw [onesTo_succ, h]; rfl
theorem onesTo_no (b : List Bool) (k : Nat) (h : b.getD k false = false) : onesTo b (k + 1) = onesTo b k := by rw [onesTo_succ, h]; simp
theorem onesTo_zero (b : List Bool) : onesTo b 0 = [] := rfl
theorem onesTo_le (b : List Bool) (k : Nat) : (onesTo b k).length ≤ k := by
  have := List.length_filter_le (fun i => b.getD i false) (List.range k)
  simpa [onesTo] using this
theorem ones_le (b : List Bool) : (ones b).length ≤ b.length := onesTo_le b _
theorem mem_onesTo {b : List Bool} {k i : Nat} : i ∈ onesTo b k ↔ i < k ∧ b.getD i false = true := by simp [onesTo]
theorem mem_ones {b : List Bool} {i : Nat} : i ∈ ones b ↔ i < b.length ∧ b.getD i false = true := mem_onesTo
theorem ones_lt {b : List Bool} {i : Nat} (h : i ∈ ones b) : i < b.length := (mem_ones.1 h).1
theorem ones_inj {a b : List Bool} (hl : a.length = b.length) (h : ones a = ones b) : a = b := by
  apply List.ext_getElem?
  intro i
  by_cases hi : i < a.length
  · have h1 : i ∈ ones a ↔ i ∈ ones b := by rw [h]
    rw [mem_ones, mem_ones] at h1
    have ha : a.getD i false = a[i] := by simp [hi]
    have hb : b.getD i false = b[i]'(by omega) := by simp [show i < b.length by omega]
    rw [List.getElem?_eq_getElem hi, List.getElem?_eq_getElem (show i < b.length by omega)]
    congr 1
    rw [ha, hb] at h1
    cases h2 : a[i] <;> cases h3 : b[i]'(by omega) <;> simp_all <;> omega
  · rw [List.getElem?_eq_none (by omega), List.getElem?_eq_none (by omega)]
theorem ones_nil {b : List Bool} (h : ∀ i, i < b.length → b.getD i false = false) : ones b = [] := by
  apply List.eq_nil_iff_forall_not_mem.2
  intro i hi
  have := mem_ones.1 hi
  rw [h i this.1] at this
  simp at this

/-- n bits, those in l set -/
def marks (n : Nat) (l : List Nat) : List Bool := (List.range n).map fun i => decide (i ∈ l)
theorem marks_length (n : Nat) (l : List Nat) : (marks n l).length = n := by simp [marks]
theorem marks_get (n : Nat) (l : List Nat) (i : Nat) : (marks n l).getD i false = decide (i < n ∧ i ∈ l) := by
  unfold marks
  simp only [List.getD_eq_getElem?_getD, List.getElem?_map]
  by_cases h : i < n
  · rw [List.getElem?_range h]; simp [h]
  · rw [List.getElem?_eq_none (by simpa using Nat.le_of_not_lt h)]; simp [h]
theorem marks_ones (b : List Bool) : marks b.length (ones b) = b := by
  apply List.ext_getElem?
  intro i
  by_cases hi : i < b.length
  · have h1 := marks_get b.length (ones b) i
    rw [List.getElem?_eq_getElem hi, List.getElem?_eq_getElem (by rw [marks_length]; exact hi)]
    congr 1
    have h2 : (marks b.length (ones b)).getD i false = (marks b.length (ones b))[i]'(by rw [marks_length]; exact hi) := by simp [marks_length, hi]
    have h3 : b.getD i false = b[i] := by simp [hi]
    rw [← h2, h1, ← h3]
    cases hb : b.getD i false
    · have : ¬ (i < b.length ∧ i ∈ ones b) := fun h => by have := (mem_ones.1 h.2).2; rw [hb] at this; cases this
      simp [this]
    · have : i < b.length ∧ i ∈ ones b := ⟨hi, mem_ones.2 ⟨hi, hb⟩⟩
      simp [this]
  · rw [List.getElem?_eq_none (by rw [marks_length]; omega), List.getElem?_eq_none (by omega)]
theorem ext_getD {a b : List Bool} (hl : a.length = b.length) (h : ∀ i, i < a.length → a.getD i false = b.getD i false) : a = b := by
  apply List.ext_getElem?
  intro i
  by_cases hi : i < a.length
  · have := h i hi
    rw [List.getElem?_eq_getElem hi, List.getElem?_eq_getElem (show i < b.length by omega)]
    congr 1
    simpa [hi, show i < b.length by omega] using this
  · rw [List.getElem?_eq_none (by omega), List.getElem?_eq_none (by omega)]
end Go.Proofs.YtacjkbljokjdkaaGreat.bit
namespace Go.Proofs.YtacjkbljokjdkaaGreat.bs
open Go.RowKit Go.Proofs.YtacjkbljokjdkaaGreat.base Go.Proofs.YtacjkbljokjdkaaGreat.heap Go.Proofs.YtacjkbljokjdkaaGreat.bit
set_option linter.unusedVariables false

theorem slWord : SliceOf Tryz.prog 24 34 1 8 := SliceOf.mk (z := .int .u64 0) Tryz.underlying24 (by kernel_rfl) rfl

/-- numbers, truth values as cells -/
def U (l : List Nat) : List Value := l.map fun n : Nat => Value.int .u64 (n : Int)
def B (l : List Bool) : List Value := l.map Value.bool
theorem U_one (l : List Nat) : ∀ u ∈ U l, u.oneCell' = true := fun u hu => by obtain ⟨_, _, rfl⟩ := List.mem_map.1 hu; rfl
theorem B_one (l : List Bool) : ∀ u ∈ B l, u.oneCell' = true := fun u hu => by obtain ⟨_, _, rfl⟩ := List.mem_map.1 hu; rfl
theorem U_get (l : List Nat) (k : Nat) (hk : k < l.length) : (U l)[k]? = some (.int .u64 (l.getD k 0 : Nat)) := by simp [U, hk]
theorem B_get (l : List Bool) (k : Nat) (hk : k < l.length) : (B l)[k]? = some (.bool (l.getD k false)) := by simp [B, hk]
theorem U_len (l : List Nat) : (U l).length = l.length := by simp [U]
theorem B_len (l : List Bool) : (B l).length = l.length := by simp [B]
theorem U_set (l : List Nat) (k x : Nat) : (U l).set k (.int .u64 (x : Int)) = U (l.set k x) := by simp [U, List.map_set]
theorem B_set (l : List Bool) (k : Nat) (x : Bool) : (B l).set k (.bool x) = B (l.set k x) := by simp [B, List.map_set]
theorem U_app (l r : List Nat) : U l ++ U r = U (l ++ r) := by simp [U]
theorem B_app (l r : List Bool) : B l ++ B r = B (l ++ r) := by simp [B]
theorem U_take (l : List Nat) (n : Nat) : (U l).take n = U (l.take n) := by simp [U, List.map_take]
theorem B_take (l : List Bool) (n : Nat) : (B l).take n = B (l.take n) := by simp [B, List.map_take]
theorem U_drop (l : List Nat) (n : Nat) : (U l).drop n = U (l.drop n) := by simp [U, List.map_drop]
theorem B_drop (l : List Bool) (n : Nat) : (B l).drop n = B (l.drop n) := by simp [B, List.map_drop]

/-- a slice of numbers, of truth values that is read -/
def RU (w : World) (a : Option Addr) (n cap : Nat) (l : List Nat) : Prop := Rd 1 w a n cap (U l) ∧ l.length = n
def RB (w : World) (a : Option Addr) (n cap : Nat) (l : List Bool) : Prop := Rd 1 w a n cap (B l) ∧ l.length = n
theorem RU.at {w : World} {a : Option Addr} {n cap : Nat} {l : List Nat} (h : RU w a n cap l) (h0 : 0 < n) :
    ∃ b off, a = some ⟨b, off, none⟩ ∧ b < w.heap.size ∧ ∀ i, i < n → w.cell? ⟨b, off + i, none⟩ = some (.int .u64 (l.getD i 0 : Nat)) := by
  obtain ⟨b, off, rfl, hb, hc⟩ := h.1.cells h0
  exact ⟨b, off, rfl, hb, fun i hi => hc i _ (U_get l i (by rw [h.2]; exact hi))⟩
theorem RB.at {w : World} {a : Option Addr} {n cap : Nat} {l : List Bool} (h : RB w a n cap l) (h0 : 0 < n) :
    ∃ b off, a = some ⟨b, off, none⟩ ∧ b < w.heap.size ∧ ∀ i, i < n → w.cell? ⟨b, off + i, none⟩ = some (.bool (l.getD i false)) := by
  obtain ⟨b, off, rfl, hb, hc⟩ := h.1.cells h0
  exact ⟨b, off, rfl, hb, fun i hi => hc i _ (B_get l i (by rw [h.2]; exact hi))⟩
theorem RU.keep {w w' : World} {a : Option Addr} {n cap : Nat} {l : List Nat} {S : Nat → Prop} (h : RU w a n cap l) (ho : Only S w w') (hn : ∀ k, At a k → ¬ S k) : RU w' a n cap l := ⟨h.1.keep ho hn, h.2⟩
theorem RB.keep {w w' : World} {a : Option Addr} {n cap : Nat} {l : List Bool} {S : Nat → Prop} (h : RB w a n cap l) (ho : Only S w w') (hn : ∀ k, At a k → ¬ S k) : RB w' a n cap l := ⟨h.1.keep ho hn, h.2⟩
theorem RU.of_heap {w w' : World} {a : Option Addr} {n cap : Nat} {l : List Nat} (h : RU w a n cap l) (he : w'.heap = w.heap) : RU w' a n cap l := ⟨h.1.of_heap he, h.2⟩
theorem RB.of_heap {w w' : World} {a : Option Addr} {n cap : Nat} {l : List Bool} (h : RB w a n cap l) (he : w'.heap = w.heap) : RB w' a n cap l := ⟨h.1.of_heap he, h.2⟩

/-! ### numbers -/
theorem pow_nat (k : Nat) (hk : k < 64) : (2 : Int) ^ k % 18446744073709551616 = ((2 ^ k : Nat) : Int) := by
  have h := lt64_pow hk
  unfold Lt64 at h
  have e : (2 : Int) ^ k = ((2 ^ k : Nat) : Int) := by push_cast; rfl
  rw [e]
  generalize 2 ^ k = y at *
  omega
theorem or_nat {a b : Nat} (ha : Lt64 a) (hb : Lt64 b) : bits .or .u64 (a : Int) (b : Int) = ((a ||| b : Nat) : Int) := u64_or_nat a b ha hb
theorem and_nat {a b : Nat} (ha : Lt64 a) (hb : Lt64 b) : bits .and .u64 (a : Int) (b : Int) = ((a &&& b : Nat) : Int) := u64_and_nat a b ha hb
theorem xor_nat {a b : Nat} (ha : Lt64 a) (hb : Lt64 b) : bits .xor .u64 (a : Int) (b : Int) = ((a ^^^ b : Nat) : Int) := u64_xor_nat a b ha hb
theorem mask63 {i : Nat} (hi : Lt64 i) : bits .and .u64 (i : Int) 63 = ((i % 64 : Nat) : Int) := by
  have h : bits .and .u64 (i : Int) ((63 : Nat) : Int) = ((i &&& 63 : Nat) : Int) := and_nat hi (by unfold Lt64; omega)
  rw [nat_mask6] at h
  exact h
theorem test_bit {x k : Nat} (hx : Lt64 x) (hk : k < 64) : (!(bits .and .u64 (x : Int) (2 ^ k % 18446744073709551616) == 0)) = x.testBit k := by
  rw [pow_nat k hk, and_nat hx (lt64_pow hk)]
  have h := and_pow x k
  cases ht : x.testBit k
  · have h0 : x &&& 2 ^ k = 0 := by rw [h]; exact ht
    rw [h0]; rfl
  · have h0 : ¬ x &&& 2 ^ k = 0 := by rw [h, ht]; simp
    generalize x &&& 2 ^ k = y at *
    have : (((y : Nat) : Int) == 0) = false := by rw [beq_eq_false_iff_ne]; omega
    rw [this]; rfl
theorem or_pow {x k : Nat} (hx : Lt64 x) (hk : k < 64) : bits .or .u64 (x : Int) (2 ^ k % 18446744073709551616) = ((x ||| 2 ^ k : Nat) : Int) := by
  rw [pow_nat k hk]; exact or_nat hx (lt64_pow hk)
theorem mask_to {x r : Nat} (hx : Lt64 x) (hr : r < 64) : bits .and .u64 (x : Int) (IntKind.u64.wrap (IntKind.u64.wrap (2 ^ (r + 1)) - 1)) = ((x % 2 ^ (r + 1) : Nat) : Int) := by
  have e : IntKind.u64.wrap (IntKind.u64.wrap (2 ^ (r + 1)) - 1) = ((2 ^ (r + 1) - 1 : Nat) : Int) := by
    have h1 : (2 : Int) ^ (r + 1) = ((2 ^ (r + 1) : Nat) : Int) := by rw [Int.natCast_pow]; rfl
    rw [h1, IntKind.wrap_u64, IntKind.wrap_u64]
    have hp : 0 < 2 ^ (r + 1) := Nat.two_pow_pos _
    have hle : 2 ^ (r + 1) ≤ 2 ^ 64 := Nat.pow_le_pow_right (by omega) (by omega)
    have h64 : (2 : Nat) ^ 64 = 18446744073709551616 := by decide
    rw [h64] at hle
    generalize 2 ^ (r + 1) = y at *
    omega
  have hm : Lt64 (2 ^ (r + 1) - 1) := by
    have hp : 0 < 2 ^ (r + 1) := Nat.two_pow_pos _
    have hle : 2 ^ (r + 1) ≤ 2 ^ 64 := Nat.pow_le_pow_right (by omega) (by omega)
    unfold Lt64
    have h64 : (2 : Nat) ^ 64 = 18446744073709551616 := by decide
    rw [h64] at hle
    omega
  rw [e, and_nat hx hm, Nat.and_two_pow_sub_one_eq_mod]
end Go.Proofs.YtacjkbljokjdkaaGreat.bs
namespace Go.Proofs.YtacjkbljokjdkaaGreat.pop64

/-- how many of the lowest f bits of b are set -/
def cnt : Nat → Nat → Nat
  | 0, _ => 0
  | f + 1, b => b % 2 + cnt f (b / 2)

theorem cnt_zero (f : Nat) : cnt f 0 = 0 := by
  induction f with
  | zero => rfl
  | succ f ih => simp [cnt, ih]
theorem cnt_le (f b : Nat) : cnt f b ≤ f := by
  induction f generalizing b with
  | zero => simp [cnt]
  | succ f ih => have := ih (b / 2); simp only [cnt]; omega
theorem cnt_8 (g a c : Nat) (ha : a < 256) : cnt (g + 8) (a + 256 * c) = cnt 8 a + cnt g c := by
  rw [show g + 8 = g + 1 + 1 + 1 + 1 + 1 + 1 + 1 + 1 from rfl, show (8 : Nat) = 0 + 1 + 1 + 1 + 1 + 1 + 1 + 1 + 1 from rfl]
  simp only [cnt]
  rw [show (a + 256 * c) / 2 / 2 / 2 / 2 / 2 / 2 / 2 / 2 = c from by omega]
  omega
/-- bit by bit -/
theorem cnt_testBit (f b : Nat) : cnt f b = ((List.range f).filter fun k => b.testBit k).length := by
  induction f generalizing b with
  | zero => rfl
  | succ f ih =>
    rw [cnt, ih, List.range_succ_eq_map, List.filter_cons, List.filter_map]
    have h0 : b.testBit 0 = decide (b % 2 = 1) := Nat.testBit_zero b
    have hm : ((fun k => b.testBit k) ∘ Nat.succ) = fun k => (b / 2).testBit k := by
      funext k
      show b.testBit (k + 1) = _
      rw [Nat.testBit_succ]
    rw [hm, h0]
    by_cases h : b % 2 = 1
    · simp [h]; omega
    · have : b % 2 = 0 := by omega
      simp [this]

/-- bytes make a number, the lowest one first -/
def comb : List Nat → Nat
  | [] => 0
  | b :: r => b + 256 * comb r
def Bytes (l : List Nat) : Prop := ∀ b ∈ l, b < 256

theorem land_split (a c m k : Nat) (ha : a < 256) (hm : m < 256) : (a + 256 * c) &&& (m + 256 * k) = (a &&& m) + 256 * (c &&& k) := by
  have e1 : a + 256 * c = 2 ^ 8 * c + a := by omega
  have e2 : m + 256 * k = 2 ^ 8 * k + m := by omega
  have hlt : a &&& m < 2 ^ 8 := Nat.lt_of_le_of_lt Nat.and_le_left (by omega)
  have e3 : (a &&& m) + 256 * (c &&& k) = 2 ^ 8 * (c &&& k) + (a &&& m) := by omega
  rw [e1, e2, e3]
  apply Nat.eq_of_testBit_eq
  intro i
  have ha' : a < 2 ^ 8 := by omega
  have hm' : m < 2 ^ 8 := by omega
  rw [Nat.testBit_and, Nat.testBit_two_pow_mul_add _ ha', Nat.testBit_two_pow_mul_add _ hm', Nat.testBit_two_pow_mul_add _ hlt]
  split <;> simp [Nat.testBit_and]

def p1 (b : Nat) : Nat := (b / 2 &&& 85) + (b &&& 85)
def p2 (b : Nat) : Nat := (b / 4 &&& 51) + (b &&& 51)
set_option maxRecDepth 100000 in
theorem byte1 : ∀ b : Fin 256, ∀ t : Fin 2, (b.val / 2 + 128 * t.val) &&& 85 = b.val / 2 &&& 85 := by decide +kernel
set_option maxRecDepth 100000 in
theorem byte2 : ∀ b : Fin 256, ∀ t : Fin 4, (b.val / 4 + 64 * t.val) &&& 51 = b.val / 4 &&& 51 := by decide +kernel
set_option maxRecDepth 100000 in
theorem byte3 : ∀ b : Fin 256, p1 b.val < 256 ∧ p2 (p1 b.val) % 16 ≤ 4 ∧ p2 (p1 b.val) ≤ 68 ∧ (p2 (p1 b.val) / 16 + p2 (p1 b.val)) % 16 = cnt 8 b.val := by decide +kernel

theorem step1 : ∀ l, Bytes l → (comb l / 2 &&& comb (l.map fun _ => 85)) + (comb l &&& comb (l.map fun _ => 85)) = comb (l.map p1) := by
  intro l
  induction l with
  | nil => intro _; rfl
  | cons b r ih =>
    intro h
    have hb : b < 256 := h b (by simp)
    have ih := ih (fun x hx => h x (by simp [hx]))
    simp only [comb, List.map_cons]
    have e : (b + 256 * comb r) / 2 = (b / 2 + 128 * (comb r % 2)) + 256 * (comb r / 2) := by omega
    have B := byte1 ⟨b, hb⟩ ⟨comb r % 2, by omega⟩
    dsimp only at B
    rw [e, land_split _ _ _ _ (by omega) (by omega), land_split _ _ _ _ hb (by omega), B, ← ih]
    unfold p1
    omega
theorem step2 : ∀ l, Bytes l → (comb l / 4 &&& comb (l.map fun _ => 51)) + (comb l &&& comb (l.map fun _ => 51)) = comb (l.map p2) := by
  intro l
  induction l with
  | nil => intro _; rfl
  | cons b r ih =>
    intro h
    have hb : b < 256 := h b (by simp)
    have ih := ih (fun x hx => h x (by simp [hx]))
    simp only [comb, List.map_cons]
    have e : (b + 256 * comb r) / 4 = (b / 4 + 64 * (comb r % 4)) + 256 * (comb r / 4) := by omega
    have B := byte2 ⟨b, hb⟩ ⟨comb r % 4, by omega⟩
    dsimp only at B
    rw [e, land_split _ _ _ _ (by omega) (by omega), land_split _ _ _ _ hb (by omega), B, ← ih]
    unfold p2
    omega
theorem land15 (x r : Nat) : (x + 16 * r) &&& 15 = x % 16 := by
  have : (15 : Nat) = 2 ^ 4 - 1 := rfl
  rw [this, Nat.and_two_pow_sub_one_eq_mod]; omega
theorem step3 : ∀ l, Bytes l → (comb (l.map fun b => p2 (p1 b)) / 16 + comb (l.map fun b => p2 (p1 b))) &&& comb (l.map fun _ => 15) = comb (l.map (cnt 8)) := by
  intro l
  induction l with
  | nil => intro _; rfl
  | cons b r ih =>
    intro h
    have hb : b < 256 := h b (by simp)
    have ih := ih (fun x hx => h x (by simp [hx]))
    simp only [comb, List.map_cons]
    have B := byte3 ⟨b, hb⟩
    dsimp only at B
    obtain ⟨-, B1, B2, B3⟩ := B
    have t4 : comb (r.map fun b => p2 (p1 b)) % 16 ≤ 4 := by
      cases r with
      | nil => simp [comb]
      | cons b' r' =>
        have B' := byte3 ⟨b', h b' (by simp)⟩
        dsimp only at B'
        simp only [comb, List.map_cons]
        omega
    have e : (p2 (p1 b) + 256 * comb (r.map fun b => p2 (p1 b))) / 16 + (p2 (p1 b) + 256 * comb (r.map fun b => p2 (p1 b))) =
        ((p2 (p1 b) / 16 + p2 (p1 b)) + 16 * (comb (r.map fun b => p2 (p1 b)) % 16)) + 256 * (comb (r.map fun b => p2 (p1 b)) / 16 + comb (r.map fun b => p2 (p1 b))) := by omega
    rw [e, land_split _ _ _ _ (by omega) (by omega), land15, B3, ih]

/-- the number that the Go text comes to -/
def pc (x : Nat) : Nat :=
  let x1 := (x / 2 &&& 6148914691236517205) + (x &&& 6148914691236517205)
  let x2 := (x1 / 4 &&& 3689348814741910323) + (x1 &&& 3689348814741910323)
  let x3 := (x2 / 16 + x2) &&& 1085102592571150095
  let x4 := x3 + x3 / 256
  let x5 := x4 + x4 / 65536
  let x6 := x5 + x5 / 4294967296
  x6 % 128

theorem comb_div (b : Nat) (r : List Nat) (hb : b < 256) : comb (b :: r) / 256 = comb r := by
  show (b + 256 * comb r) / 256 = comb r
  generalize comb r = y
  omega
theorem comb_lt : ∀ l, Bytes l → comb l < 256 ^ l.length := by
  intro l
  induction l with
  | nil => intro _; simp [comb]
  | cons b r ih =>
    intro h
    have hb : b < 256 := h b (by simp)
    have ih := ih (fun x hx => h x (by simp [hx]))
    show b + 256 * comb r < 256 ^ (r.length + 1)
    rw [Nat.pow_succ]
    generalize 256 ^ r.length = y at *
    omega
/-- the bytes of a number -/
def byt : Nat → Nat → List Nat
  | 0, _ => []
  | n + 1, x => x % 256 :: byt n (x / 256)
theorem byt_bytes (n : Nat) : ∀ x, Bytes (byt n x) := by
  induction n with
  | zero => intro x b hb; simp [byt] at hb
  | succ n ih =>
    intro x b hb
    rcases List.mem_cons.1 hb with rfl | hb
    · exact Nat.mod_lt _ (by omega)
    · exact ih _ b hb
theorem byt_comb (n : Nat) : ∀ x, x < 256 ^ n → comb (byt n x) = x := by
  induction n with
  | zero => intro x hx; simp at hx; simp [byt, comb, hx]
  | succ n ih =>
    intro x hx
    rw [Nat.pow_succ] at hx
    show x % 256 + 256 * comb (byt n (x / 256)) = x
    rw [ih _ (by generalize 256 ^ n = y at *; omega)]
    omega
theorem cnt_byt (n : Nat) : ∀ x, x < 256 ^ n → cnt (8 * n) x = ((byt n x).map (cnt 8)).sum := by
  induction n with
  | zero => intro x hx; rfl
  | succ n ih =>
    intro x hx
    rw [Nat.pow_succ] at hx
    have e : x = x % 256 + 256 * (x / 256) := by omega
    show _ = (cnt 8 (x % 256) :: (byt n (x / 256)).map (cnt 8)).sum
    rw [List.sum_cons, ← ih (x / 256) (by generalize 256 ^ n = y at *; omega), show 8 * (n + 1) = 8 * n + 8 from by omega]
    conv => lhs; rw [e]
    exact cnt_8 _ _ _ (by omega)
theorem byt_8 (x : Nat) : ∃ a b c d e f g h, byt 8 x = [a, b, c, d, e, f, g, h] := ⟨_, _, _, _, _, _, _, _, rfl⟩
theorem div_65536 (b c : Nat) (r : List Nat) (hb : b < 256) (hc : c < 256) : comb (b :: c :: r) / 65536 = comb r := by
  rw [show 65536 = 256 * 256 from rfl, ← Nat.div_div_eq_div_mul, comb_div _ _ hb, comb_div _ _ hc]
theorem tail (a b c d e f g h : Nat) (ha : a ≤ 8) (hb : b ≤ 8) (hc : c ≤ 8) (hd : d ≤ 8) (he : e ≤ 8) (hf : f ≤ 8) (hg : g ≤ 8) (hh : h ≤ 8) (x3 : Nat) (hx : x3 = comb [a, b, c, d, e, f, g, h]) :
    (let x4 := x3 + x3 / 256
     let x5 := x4 + x4 / 65536
     let x6 := x5 + x5 / 4294967296
     x6 % 128 = a + b + c + d + e + f + g + h ∧ x4 < 18446744073709551616 ∧ x5 < 18446744073709551616 ∧ x6 < 18446744073709551616) := by
  dsimp only
  rw [hx, comb_div _ _ (by omega)]
  have e4 : comb [a, b, c, d, e, f, g, h] + comb [b, c, d, e, f, g, h] = comb [a + b, b + c, c + d, d + e, e + f, f + g, g + h, h] := by simp only [comb]; omega
  rw [e4, div_65536 _ _ _ (by omega) (by omega)]
  have e5 : comb [a + b, b + c, c + d, d + e, e + f, f + g, g + h, h] + comb [c + d, d + e, e + f, f + g, g + h, h] = comb [a + b + (c + d), b + c + (d + e), c + d + (e + f), d + e + (f + g), e + f + (g + h), f + g + h, g + h, h] := by simp only [comb]; omega
  rw [e5, show 4294967296 = 65536 * 65536 from rfl, ← Nat.div_div_eq_div_mul, div_65536 _ _ _ (by omega) (by omega), div_65536 _ _ _ (by omega) (by omega)]
  have e6 : comb [a + b + (c + d), b + c + (d + e), c + d + (e + f), d + e + (f + g), e + f + (g + h), f + g + h, g + h, h] + comb [e + f + (g + h), f + g + h, g + h, h] =
      comb [a + b + (c + d) + (e + f + (g + h)), b + c + (d + e) + (f + g + h), c + d + (e + f) + (g + h), d + e + (f + g) + h, e + f + (g + h), f + g + h, g + h, h] := by simp only [comb]; omega
  rw [e6]
  have bd : ∀ l : List Nat, l.length = 8 → Bytes l → comb l < 18446744073709551616 := fun l hl hb => by
    have := comb_lt l hb
    rw [hl] at this
    exact this
  refine ⟨?_, bd _ rfl ?_, bd _ rfl ?_, bd _ rfl ?_⟩
  · generalize hR : comb [b + c + (d + e) + (f + g + h), c + d + (e + f) + (g + h), d + e + (f + g) + h, e + f + (g + h), f + g + h, g + h, h] = R
    have : comb [a + b + (c + d) + (e + f + (g + h)), b + c + (d + e) + (f + g + h), c + d + (e + f) + (g + h), d + e + (f + g) + h, e + f + (g + h), f + g + h, g + h, h] = (a + b + (c + d) + (e + f + (g + h))) + 256 * R := by rw [← hR]; rfl
    rw [this]
    omega
  all_goals
    intro x hx
    simp only [List.mem_cons, List.not_mem_nil, or_false] at hx
    rcases hx with rfl | rfl | rfl | rfl | rfl | rfl | rfl | rfl <;> omega

theorem pc_eq (x : Nat) (h : x < 18446744073709551616) : pc x = cnt 64 x ∧
    (let x1 := (x / 2 &&& 6148914691236517205) + (x &&& 6148914691236517205)
     let x2 := (x1 / 4 &&& 3689348814741910323) + (x1 &&& 3689348814741910323)
     let x3 := (x2 / 16 + x2) &&& 1085102592571150095
     let x4 := x3 + x3 / 256
     let x5 := x4 + x4 / 65536
     x1 < 18446744073709551616 ∧ x2 < 18446744073709551616 ∧ x2 / 16 + x2 < 18446744073709551616 ∧ x4 < 18446744073709551616 ∧ x5 < 18446744073709551616 ∧ x5 + x5 / 4294967296 < 18446744073709551616) := by
  have hx8 : x < 256 ^ 8 := h
  have hB := byt_bytes 8 x
  have hxc := byt_comb 8 x hx8
  have hcn := cnt_byt 8 x hx8
  obtain ⟨a, b, c, d, e, f, g, i, hl⟩ := byt_8 x
  rw [hl] at hB hxc hcn
  have s1 := step1 _ hB
  have hB1 : Bytes ([a, b, c, d, e, f, g, i].map p1) := by
    intro b hb
    obtain ⟨c, hc, rfl⟩ := List.mem_map.1 hb
    exact (byte3 ⟨c, hB c hc⟩).1
  have s2 := step2 _ hB1
  have s3 := step3 _ hB
  rw [hxc] at s1
  rw [← s1, List.map_map, List.map_map] at s2
  have c1 : comb ([a, b, c, d, e, f, g, i].map fun _ => 85) = 6148914691236517205 := by simp [comb]
  have c2 : comb ([a, b, c, d, e, f, g, i].map ((fun _ => 51) ∘ p1)) = 3689348814741910323 := by simp [comb]
  have c3 : comb ([a, b, c, d, e, f, g, i].map fun _ => 15) = 1085102592571150095 := by simp [comb]
  rw [c1] at s1 s2
  rw [c2] at s2
  have hs : (p2 ∘ p1) = fun b => p2 (p1 b) := rfl
  rw [hs] at s2
  have bd : ∀ l : List Nat, l.length = 8 → Bytes l → comb l < 18446744073709551616 := fun l hl hb => by
    have := comb_lt l hb
    rw [hl] at this
    exact this
  have l1 : comb ([a, b, c, d, e, f, g, i].map p1) < 18446744073709551616 := bd _ rfl hB1
  have l2 : comb ([a, b, c, d, e, f, g, i].map fun b => p2 (p1 b)) / 16 + comb ([a, b, c, d, e, f, g, i].map fun b => p2 (p1 b)) < 18446744073709551616 := by
    have h68 : ∀ z ∈ [a, b, c, d, e, f, g, i], p2 (p1 z) ≤ 68 := fun z hz => (byte3 ⟨z, hB z hz⟩).2.2.1
    have hlt : comb ([a, b, c, d, e, f, g, i].map fun b => p2 (p1 b)) ≤ 4919131752989213764 := by
      simp only [List.mem_cons, List.not_mem_nil, or_false, forall_eq_or_imp, forall_eq] at h68
      simp only [comb, List.map_cons, List.map_nil]
      omega
    omega
  rw [← s2] at l2 s3
  rw [c3] at s3
  rw [← s1] at l1
  have tl := tail (cnt 8 a) (cnt 8 b) (cnt 8 c) (cnt 8 d) (cnt 8 e) (cnt 8 f) (cnt 8 g) (cnt 8 i) (cnt_le _ _) (cnt_le _ _) (cnt_le _ _) (cnt_le _ _) (cnt_le _ _) (cnt_le _ _) (cnt_le _ _) (cnt_le _ _) _ s3
  have hsum : cnt 64 x = cnt 8 a + cnt 8 b + cnt 8 c + cnt 8 d + cnt 8 e + cnt 8 f + cnt 8 g + cnt 8 i := by
    rw [show (64 : Nat) = 8 * 8 from rfl, hcn]
    simp only [List.map_cons, List.map_nil, List.sum_cons, List.sum_nil]
    omega
  dsimp only at tl
  refine ⟨?_, ?_⟩
  · unfold pc
    dsimp only
    rw [tl.1, hsum]
  · dsimp only
    exact ⟨l1, by omega, l2, tl.2.1, tl.2.2.1, tl.2.2.2⟩
end Go.Proofs.YtacjkbljokjdkaaGreat.pop64
namespace Go.Proofs.YtacjkbljokjdkaaGreat.bs
open Go.RowKit Go.Proofs.YtacjkbljokjdkaaGreat.base Go.Proofs.YtacjkbljokjdkaaGreat.bit
set_option linter.unusedVariables false

open Go.Proofs.YtacjkbljokjdkaaGreat.pop64
theorem wrap_lt {a : Nat} (ha : Lt64 a) : IntKind.u64.wrap (a : Int) = (a : Int) := by
  unfold Lt64 at ha
  rw [IntKind.wrap_u64]; omega
theorem stage (x c m : Nat) (hx : Lt64 x) (hm : Lt64 m) (hs : Lt64 ((x / c &&& m) + (x &&& m))) : IntKind.u64.wrap (bits .and .u64 ((x : Int) / (c : Int)) (m : Int) + bits .and .u64 (x : Int) (m : Int)) = (((x / c &&& m) + (x &&& m) : Nat) : Int) := by
  have h1 : Lt64 (x / c) := Nat.lt_of_le_of_lt (Nat.div_le_self _ _) hx
  rw [← Int.natCast_ediv, and_nat h1 hm, and_nat hx hm, ← Int.natCast_add, wrap_lt hs]
theorem stage3 (x c m : Nat) (hm : Lt64 m) (hs : Lt64 (x / c + x)) : bits .and .u64 (IntKind.u64.wrap ((x : Int) / (c : Int) + (x : Int))) (m : Int) = (((x / c + x) &&& m : Nat) : Int) := by
  rw [← Int.natCast_ediv, ← Int.natCast_add, wrap_lt hs, and_nat hs hm]
theorem stage4 (x c : Nat) (hs : Lt64 (x + x / c)) : IntKind.u64.wrap ((x : Int) + (x : Int) / (c : Int)) = ((x + x / c : Nat) : Int) := by
  rw [← Int.natCast_ediv, ← Int.natCast_add, wrap_lt hs]
theorem stage7 (x : Nat) : bits .and .i64 (wrap64 (x : Int)) 127 = ((x % 128 : Nat) : Int) := by
  rw [i64_and127]
  unfold wrap64
  omega
theorem pop_val (x : Nat) (hx : Lt64 x) :
    let X := (x : Int)
    let x1 := IntKind.u64.wrap (bits .and .u64 (X / 2) 6148914691236517205 + bits .and .u64 X 6148914691236517205)
    let x2 := IntKind.u64.wrap (bits .and .u64 (x1 / 4) 3689348814741910323 + bits .and .u64 x1 3689348814741910323)
    let x3 := bits .and .u64 (IntKind.u64.wrap (x2 / 16 + x2)) 1085102592571150095
    let x4 := IntKind.u64.wrap (x3 + x3 / 256)
    let x5 := IntKind.u64.wrap (x4 + x4 / 65536)
    let x6 := IntKind.u64.wrap (x5 + x5 / 4294967296)
    bits .and .i64 (wrap64 x6) 127 = (cnt 64 x : Int) := by
  obtain ⟨h0, h1, h2, h3, h4, h5, h6⟩ := pc_eq x hx
  rw [← h0]
  unfold pc
  dsimp only at *
  have l1 : Lt64 6148914691236517205 := by unfold Lt64; decide
  have l2 : Lt64 3689348814741910323 := by unfold Lt64; decide
  have l3 : Lt64 1085102592571150095 := by unfold Lt64; decide
  have s1 := stage x 2 6148914691236517205 hx l1 h1
  have s2 := stage _ 4 3689348814741910323 h1 l2 h2
  have s3 := stage3 _ 16 1085102592571150095 l3 h3
  have s4 := stage4 _ 256 h4
  have s5 := stage4 _ 65536 h5
  have s6 := stage4 _ 4294967296 h6
  simp only [Int.cast_ofNat_Int] at s1 s2 s3 s4 s5 s6
  rw [s1, s2, s3, s4, s5, s6, stage7]

set_option maxHeartbeats 1600000 in
theorem onesCount (x : Nat) (hx : Lt64 x) (w : World) : Calls Tryz.prog 75 #[.int .u64 (x : Int)] w fun e w' => e = .returned (.int .i64 (cnt 64 x : Int)) ∧ w' = w := by
  go_enter Tryz.func75, Tryz.ntmps75
  go_wp2
  go_ret
  exact ⟨ret_int (pop_val x hx), rfl⟩
end Go.Proofs.YtacjkbljokjdkaaGreat.bs
namespace Go.Proofs.YtacjkbljokjdkaaGreat.bs
open Go.RowKit Go.Proofs.YtacjkbljokjdkaaGreat.base Go.Proofs.YtacjkbljokjdkaaGreat.heap Go.Proofs.YtacjkbljokjdkaaGreat.bit
set_option linter.unusedVariables false

/-- t is the lowest bit of x that is set -/
def Low (x t : Nat) : Prop := x.testBit t = true ∧ ∀ i, i < t → x.testBit i = false
theorem low_find (x : Nat) : ∀ n, (∃ t, t < n ∧ Low x t) ∨ ∀ i, i < n → x.testBit i = false
  | 0 => .inr fun i hi => by omega
  | n + 1 => by
    rcases low_find x n with ⟨t, h1, h2⟩ | h
    · exact .inl ⟨t, by omega, h2⟩
    · by_cases hx : x.testBit n = true
      · exact .inl ⟨n, by omega, hx, h⟩
      · refine .inr fun i hi => ?_
        by_cases e : i = n
        · rw [e]; simpa using hx
        · exact h i (by omega)
theorem low_ex {x : Nat} (hx : Lt64 x) (h0 : x ≠ 0) : ∃ t, t < 64 ∧ Low x t := by
  rcases low_find x 64 with h | h
  · exact h
  · refine absurd (Nat.eq_of_testBit_eq fun i => ?_) h0
    rw [Nat.zero_testBit]
    by_cases hi : i < 64
    · exact h i hi
    · exact testBit_far hx (by omega)
theorem low_split {x t : Nat} (h : Low x t) : x = 2 ^ (t + 1) * (x / 2 ^ (t + 1)) + 2 ^ t := by
  have h1 : x % 2 ^ (t + 1) = 2 ^ t := Nat.eq_of_testBit_eq fun i => by
    rw [Nat.testBit_mod_two_pow, Nat.testBit_two_pow]
    by_cases hi : i < t
    · rw [h.2 i hi, Bool.and_false, decide_eq_false (by omega)]
    · by_cases e : i = t
      · subst e
        rw [h.1]; simp
      · rw [decide_eq_false (show ¬ i < t + 1 by omega), decide_eq_false (by omega)]; rfl
  have := Nat.div_add_mod x (2 ^ (t + 1))
  rw [h1] at this
  exact this.symm
/-- the bits of x - 1 -/
theorem pred_bit {x t : Nat} (h : Low x t) (i : Nat) : (x - 1).testBit i = if i < t then true else if i = t then false else x.testBit i := by
  have hx := low_split h
  have hp := Nat.two_pow_pos t
  have hlt : 2 ^ t < 2 ^ (t + 1) := Nat.pow_lt_pow_right (by omega) (by omega)
  generalize hy : x / 2 ^ (t + 1) = y at hx
  have h1 : x - 1 = 2 ^ (t + 1) * y + (2 ^ t - 1) := by omega
  rw [h1, Nat.testBit_two_pow_mul_add _ (by omega), Nat.testBit_two_pow_sub_one]
  by_cases hi : i < t
  · rw [if_pos (by omega), if_pos hi, decide_eq_true hi]
  · by_cases e : i = t
    · rw [if_pos (by omega), if_neg hi, if_pos e, decide_eq_false hi]
    · rw [if_neg (by omega), if_neg hi, if_neg e, hx, Nat.testBit_two_pow_mul_add _ hlt, if_neg (by omega)]
theorem clear_low {x t : Nat} (h : Low x t) (i : Nat) : (x &&& (x - 1)).testBit i = (decide (t < i) && x.testBit i) := by
  rw [Nat.testBit_and, pred_bit h]
  by_cases hi : i < t
  · rw [h.2 i hi]; simp
  · by_cases e : i = t
    · subst e; simp
    · rw [if_neg hi, if_neg e, decide_eq_true (show t < i by omega)]; simp
theorem keep_low {x t : Nat} (hx : Lt64 x) (h0 : 0 < x) (h : Low x t) : x &&& (18446744073709551616 - x) = 2 ^ t := Nat.eq_of_testBit_eq fun i => by
  have e : (18446744073709551616 - x : Nat) = 2 ^ 64 - ((x - 1) + 1) := by
    have : (2 : Nat) ^ 64 = 18446744073709551616 := by decide
    omega
  have hx1 : x - 1 < 2 ^ 64 := by
    have : (2 : Nat) ^ 64 = 18446744073709551616 := by decide
    unfold Lt64 at hx; omega
  rw [e, Nat.testBit_and, Nat.testBit_two_pow_sub_succ hx1, pred_bit h, Nat.testBit_two_pow]
  by_cases hi : i < t
  · rw [h.2 i hi, decide_eq_false (show ¬ t = i by omega)]; rfl
  · by_cases e2 : i = t
    · subst e2
      rw [if_neg hi, if_pos rfl, h.1]
      have : i < 64 := by
        refine Classical.byContradiction fun hge => ?_
        have := h.1
        rw [testBit_far hx (by omega)] at this
        cases this
      simp [this]
    · rw [if_neg hi, if_neg e2, decide_eq_false (show ¬ t = i by omega)]
      cases x.testBit i <;> simp

/-- the library's table -/
def deB : List Nat := [0, 1, 56, 2, 57, 49, 28, 3, 61, 58, 42, 50, 38, 29, 17, 4, 62, 47, 59, 36, 45, 43, 51, 22, 53, 39, 33, 30, 24, 18, 12, 5, 63, 55, 48, 27, 60, 41, 37, 16, 46, 35, 44, 21, 52, 32, 23, 11, 54, 26, 40, 15, 34, 20, 31, 10, 25, 14, 19, 9, 13, 8, 7, 6]
/-- it stands where it is laid -/
def Tab (w : World) : Prop := ∀ i, i < 64 → w.cell? ⟨0, i, none⟩ = some (.int .u8 (deB.getD i 0 : Nat))
theorem Tab.keep {w w' : World} {S : Nat → Prop} (h : Tab w) (hs : 0 < w.heap.size) (hO : Only S w w') (hn : ¬ S 0) : Tab w' := fun i hi => by
  rw [hO.cell (p := ⟨0, i, none⟩) hs hn]; exact h i hi
theorem deB_at : ∀ t : Fin 64, deB.getD (2 ^ t.val * 285870213051353865 % 18446744073709551616 / 288230376151711744) 0 = t.val := by decide +kernel

set_option maxRecDepth 100000 in
set_option maxHeartbeats 1600000 in
theorem tz64 (x t : Nat) (w : World) (hx : Lt64 x) (h0 : 0 < x) (h : Low x t) (ht : t < 64) (hT : Tab w) :
    Calls Tryz.prog 92 #[.int .u64 (x : Int)] w fun e w' => e = .returned (.int .i64 (t : Int)) ∧ w = w' := by
  have n1 : IntKind.u64.wrap (-(x : Int)) = ((18446744073709551616 - x : Nat) : Int) := by rw [IntKind.wrap_u64]; unfold Lt64 at hx; omega
  have hl : Lt64 (18446744073709551616 - x) := by unfold Lt64; omega
  have a1 : bits .and .u64 (x : Int) ((18446744073709551616 - x : Nat) : Int) = ((2 ^ t : Nat) : Int) := by rw [and_nat hx hl, keep_low hx h0 h]
  have m1 : IntKind.u64.wrap (((2 ^ t : Nat) : Int) * 285870213051353865) = ((2 ^ t * 285870213051353865 % 18446744073709551616 : Nat) : Int) := by rw [IntKind.wrap_u64]; omega
  obtain ⟨q, hq⟩ : ∃ q, 2 ^ t * 285870213051353865 % 18446744073709551616 / 288230376151711744 = q := ⟨_, rfl⟩
  have hq64 : q < 64 := by omega
  have c1 := hT q hq64
  have hd := deB_at ⟨t, ht⟩
  dsimp only at hd
  rw [hq] at hd
  rw [hd] at c1
  have d1 : ((2 ^ t * 285870213051353865 % 18446744073709551616 : Nat) : Int) / 288230376151711744 = (q : Int) := by omega
  have z1 : ¬ x = 0 := by omega
  have hq' : (q : Int) < 64 := by omega
  clear hq hd hx h hl hT h0
  generalize 2 ^ t * 285870213051353865 % 18446744073709551616 = P at *
  generalize 18446744073709551616 - x = nx at *
  generalize 2 ^ t = pt at *
  go_enter Tryz.func92, Tryz.ntmps92
  go_wp2_with fail
  go_ret
  exact ⟨rfl, rfl⟩
end Go.Proofs.YtacjkbljokjdkaaGreat.bs

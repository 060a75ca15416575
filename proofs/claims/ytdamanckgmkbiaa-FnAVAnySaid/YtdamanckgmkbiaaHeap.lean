/-
  Small laws on memory: what is read of a slice (Rd), a slice of the call's own (Own), which blocks may have changed (Only), and append over them.
-/
import Derived.WalkKit
import Derived.Deep.AppendSrc
import Derived.Deep.Draws
import Derived.Lib.Hide
namespace Go.Proofs.Ytdamanckgmkbiaa.heap
open Go.RowKit

/-- the cells xs stand one behind the other from place off of block b on -/
def Cells (w : World) (b off : Nat) (xs : List Value) : Prop := ∀ j v, xs[j]? = some v → w.cell? ⟨b, off + j, none⟩ = some v

/-- blocks outside S are as they were -/
structure Only (S : Nat → Prop) (w w' : World) : Prop where
  os : w'.os = w.os
  tape : w'.tape = w.tape
  output : w'.output = w.output
  size : w.heap.size ≤ w'.heap.size
  block : ∀ k, k < w.heap.size → ¬ S k → w'.heap[k]? = w.heap[k]?

/-- k is the block that a leads to -/
def At : Option Addr → Nat → Prop
  | some ad, k => ad.block = k
  | none, _ => False

section only
variable {S T : Nat → Prop} {w w' w'' : World}
theorem Only.refl (S : Nat → Prop) (w : World) : Only S w w := ⟨rfl, rfl, rfl, Nat.le_refl _, fun _ _ _ => rfl⟩
theorem Only.mono (h : Only S w w') (hs : ∀ k, k < w.heap.size → S k → T k) : Only T w w' := ⟨h.os, h.tape, h.output, h.size, fun k hk hn => h.block k hk fun s => hn (hs k hk s)⟩
/-- the second step may change what the first one may, and what is new -/
theorem Only.trans (h : Only S w w') (h' : Only T w' w'') (hs : ∀ k, k < w.heap.size → T k → S k) : Only S w w'' :=
  ⟨h'.os.trans h.os, h'.tape.trans h.tape, h'.output.trans h.output, Nat.le_trans h.size h'.size, fun k hk hn =>
    (h'.block k (Nat.lt_of_lt_of_le hk h.size) fun t => hn (hs k hk t)).trans (h.block k hk hn)⟩
theorem Only.drew (h : Only S w w') : Only S w w'.drew := ⟨h.os, h.tape, h.output, h.size, h.block⟩
theorem Only.drewN (h : Only S w w') (n : Nat) : Only S w (w'.drewN n) := ⟨h.os, h.tape, h.output, h.size, h.block⟩
theorem Only.undrewN {n : Nat} (h : Only S (w.drewN n) w') : Only S w w' := ⟨h.os, h.tape, h.output, h.size, h.block⟩
theorem Only.undrew (h : Only S w.drew w') : Only S w w' := ⟨h.os, h.tape, h.output, h.size, h.block⟩
theorem Only.alloc (h : Only S w w') (o : Obj) : Only S w (w'.alloc o) :=
  h.trans (T := fun _ => False) ⟨rfl, rfl, rfl, by simp, fun k hk _ => Below.heap_alloc _ _ _ hk⟩ (fun _ _ f => f.elim)
theorem Only.setCell (h : Only S w w') (p : Addr) (u : Value) (hp : p.block < w.heap.size → S p.block) : Only S w (w'.setCell p u) :=
  h.trans (T := fun k => k = p.block) ⟨rfl, rfl, rfl, by simp [World.setCell], fun k _ hn => Below.heap_setCell _ _ _ _ hn⟩ (fun k hk e => by subst e; exact hp hk)
theorem Only.grown {row : Option Nat} (h : Only S w w') (hg : w'.grownBy w'' row) (hr : ∀ k, k < w.heap.size → row = some k → S k) : Only S w w'' :=
  h.trans (T := fun k => row = some k) ⟨hg.os, hg.tape, hg.output, hg.size, fun k hk hn => hg.block k hk fun e => hn e.symm⟩ hr
theorem Only.of_below (h : Below w.heap.size w w') : Only (fun _ => False) w w' := ⟨h.os, h.tape, h.output, h.size, fun k hk _ => h.block k hk⟩
theorem Only.below {B : Nat} (h : Only S w w') (hB : B ≤ w.heap.size) (hs : ∀ k, k < B → ¬ S k) : Below B w w' := ⟨h.os, h.tape, h.output, h.size, fun k hk => h.block k (by omega) (hs k hk)⟩
theorem Only.cell (h : Only S w w') {p : Addr} (hp : p.block < w.heap.size) (hn : ¬ S p.block) : w'.cell? p = w.cell? p := World.cell?_of_block (w := w) (h.block p.block hp hn)
theorem Only.frozen (h : Only S w w') {p : Addr} (hp : p.block < w.heap.size) (hn : ¬ S p.block) : w'.frozen? p = w.frozen? p := World.frozen?_of_block (w := w) (h.block p.block hp hn)
theorem lt_of_heap {b : Nat} {o : Obj} (h : w.heap[b]? = some o) : b < w.heap.size := (Array.getElem?_eq_some_iff.1 h).1
theorem Only.obj (h : Only S w w') {b : Nat} {o : Obj} (hb : w.heap[b]? = some o) (hn : ¬ S b) : w'.heap[b]? = some o := (h.block b (lt_of_heap hb) hn).trans hb
end only

section cells
variable {w w' : World} {b off : Nat} {xs : List Value}
theorem Cells.nil (w : World) (b off : Nat) : Cells w b off [] := fun j v h => by simp at h
theorem Cells.at (h : Cells w b off xs) (j : Nat) (hj : j < xs.length) : w.cell? ⟨b, off + j, none⟩ = some xs[j] := h j _ (List.getElem?_eq_getElem hj)
theorem Cells.keep {S : Nat → Prop} (h : Cells w b off xs) (hb : b < w.heap.size) (ho : Only S w w') (hn : ¬ S b) : Cells w' b off xs :=
  fun j v hj => (ho.cell (p := ⟨b, off + j, none⟩) hb hn).trans (h j v hj)
theorem Cells.drop (h : Cells w b off xs) (n : Nat) : Cells w b (off + n) (xs.drop n) := fun j v hj => by
  rw [List.getElem?_drop] at hj
  have := h (n + j) v hj
  rwa [← Nat.add_assoc] at this
theorem Cells.take (h : Cells w b off xs) (n : Nat) : Cells w b off (xs.take n) := fun j v hj => by
  rw [List.getElem?_take] at hj
  split at hj
  · exact h j v hj
  · cases hj
theorem Cells.drewN (h : Cells w b off xs) (n : Nat) : Cells (w.drewN n) b off xs := h
end cells

/-- a slice that can be read: n elements of 'size' cells each, the cells xs -/
structure Rd (size : Nat) (w : World) (a : Option Addr) (n cap : Nat) (xs : List Value) : Prop where
  len : xs.length = n * size
  le : n ≤ cap
  max : cap ≤ maxLen
  one : ∀ u ∈ xs, u.oneCell' = true
  cells : 0 < n → ∃ b off, a = some ⟨b, off, none⟩ ∧ b < w.heap.size ∧ Cells w b off xs
  nilcap : a = none → cap = 0

section rd
variable {P : Program} {size : Nat} {w w' : World} {a : Option Addr} {n cap : Nat} {xs : List Value}
theorem Rd.keep {S : Nat → Prop} (h : Rd size w a n cap xs) (ho : Only S w w') (hn : ∀ k, At a k → ¬ S k) : Rd size w' a n cap xs :=
  ⟨h.len, h.le, h.max, h.one, fun hp => by
    obtain ⟨b, off, rfl, hb, hc⟩ := h.cells hp
    exact ⟨b, off, rfl, Nat.lt_of_lt_of_le hb ho.size, hc.keep hb ho (hn b rfl)⟩, h.nilcap⟩
theorem Rd.drewN (h : Rd size w a n cap xs) (k : Nat) : Rd size (w.drewN k) a n cap xs := ⟨h.len, h.le, h.max, h.one, h.cells, h.nilcap⟩
theorem Rd.of_heap (h : Rd size w a n cap xs) (he : w'.heap = w.heap) : Rd size w' a n cap xs :=
  ⟨h.len, h.le, h.max, h.one, fun hp => by
    obtain ⟨b, off, ha, hb, hc⟩ := h.cells hp
    exact ⟨b, off, ha, by rw [he]; exact hb, fun j v hj => by rw [← hc j v hj]; unfold World.cell?; rw [he]⟩, h.nilcap⟩
theorem Rd.drew (h : Rd size w a n cap xs) : Rd size w.drew a n cap xs := ⟨h.len, h.le, h.max, h.one, h.cells, h.nilcap⟩
theorem Rd.nil (w : World) (size : Nat) : Rd size w none 0 0 [] := ⟨by simp, Nat.le_refl _, by simp [maxLen], by simp, by omega, fun _ => rfl⟩
theorem Rd.bound (h : Rd size w a n cap xs) : n ≤ cap ∧ cap ≤ 9223372036854775807 := by have := h.max; unfold maxLen at this; exact ⟨h.le, by omega⟩
theorem Rd.src {tx e' : TypeId} (h : Rd size w a n cap xs) (hk : P.underlying tx = some (.slice e')) : Src P size tx (.slice a n cap) n xs w := by
  rcases Nat.eq_zero_or_pos n with rfl | hp
  · obtain rfl : xs = [] := List.eq_nil_of_length_eq_zero (by simpa using h.len)
    cases a with
    | none => exact Src.ofNil w hk cap
    | some ad => exact Src.ofSlice w hk ad 0 cap [] (by simp) (by simp) (by simp)
  · obtain ⟨b, off, rfl, hb, hc⟩ := h.cells hp
    exact Src.ofSlice w hk _ n cap xs h.len (fun j u hu => by rw [Addr.add_lit]; exact hc j u hu) h.one
end rd

/-- a slice of the call's own: nil, or at the head of a row of its own -/
structure Own (e size : Nat) (w : World) (a : Option Addr) (n cap : Nat) (xs : List Value) : Prop where
  len : xs.length = n * size
  le : n ≤ cap
  max : cap ≤ maxLen
  one : ∀ u ∈ xs, u.oneCell' = true
  alt : (a = none ∧ cap = 0) ∨ ∃ b cur, a = some ⟨b, 0, none⟩ ∧ w.heap[b]? = some (.cells cur e (0, 0)) ∧ cur.size = cap * size ∧ cur.toList.take (n * size) = xs

theorem setCell_heap {w : World} {b : Nat} {cur : Array Value} {e : TypeId} {fr : Nat × Nat} (hb : w.heap[b]? = some (.cells cur e fr)) (j : Nat) (v : Value) :
    (w.setCell ⟨b, j, none⟩ v).heap[b]? = some (.cells (cur.setIfInBounds j v) e fr) := by
  simp [World.setCell, Array.getElem?_modify, hb]

theorem heap_alloc_new' (w : World) (o : Obj) (k : Nat) (hk : k = w.heap.size) : (w.alloc o).heap[k]? = some o := by subst hk; exact heap_alloc_new w o

/-- what a whole row yields to an append -/
theorem Src.row {P : Program} {w : World} {size : Nat} {tx e' : TypeId} (hk : P.underlying tx = some (.slice e')) {g : Nat} {cs : Array Value} {t : TypeId} {fr : Nat × Nat} (hg : w.heap[g]? = some (.cells cs t fr)) (n c : Nat)
    (hl : cs.size = n * size) (h1 : ∀ u ∈ cs.toList, u.oneCell' = true) : Src P size tx (.slice (some ⟨g, 0, none⟩) n c) n cs.toList w :=
  Src.ofSlice w hk _ n c cs.toList (by rw [Array.length_toList]; exact hl) (fun j u hu => by
    rw [Addr.add_lit, Nat.zero_add, cell_of_row w g j cs t fr hg]
    simpa using hu) h1
/-- the cells of a block that is known whole -/
theorem block_cell {w : World} {b j : Nat} {cs : Array Value} {t : TypeId} {fr : Nat × Nat} {v : Value} (hb : w.heap[b]? = some (.cells cs t fr)) (hv : cs[j]? = some v) : w.cell? ⟨b, j, none⟩ = some v := by
  rw [cell_of_row w b j cs t fr hb]; exact hv
theorem block_free {w : World} {b j : Nat} {cs : Array Value} {t : TypeId} (hb : w.heap[b]? = some (.cells cs t (0, 0))) : w.frozen? ⟨b, j, none⟩ = false := by simp [World.frozen?, hb]

section own
variable {P : Program} {e size : Nat} {w w' : World} {a : Option Addr} {n cap : Nat} {xs : List Value}
theorem Own.nil (e size : Nat) (w : World) : Own e size w none 0 0 [] := ⟨by simp, Nat.le_refl _, by simp [maxLen], by simp, .inl ⟨rfl, rfl⟩⟩
theorem Own.lt (h : Own e size w a n cap xs) : ∀ k, At a k → k < w.heap.size := by
  intro k hk
  rcases h.alt with ⟨rfl, _⟩ | ⟨b, cur, rfl, hb, _⟩
  · exact hk.elim
  · obtain rfl : b = k := hk
    exact lt_of_heap hb
theorem Own.keep {S : Nat → Prop} (h : Own e size w a n cap xs) (ho : Only S w w') (hn : ∀ k, At a k → ¬ S k) : Own e size w' a n cap xs :=
  ⟨h.len, h.le, h.max, h.one, by
    rcases h.alt with hh | ⟨b, cur, rfl, hb, r⟩
    · exact .inl hh
    · exact .inr ⟨b, cur, rfl, ho.obj hb (hn b rfl), r⟩⟩
theorem Own.rd (h : Own e size w a n cap xs) : Rd size w a n cap xs :=
  ⟨h.len, h.le, h.max, h.one, fun hp => by
    rcases h.alt with ⟨rfl, hc⟩ | ⟨b, cur, rfl, hb, hs, ht⟩
    · have := h.le; omega
    · refine ⟨b, 0, rfl, lt_of_heap hb, fun j v hj => ?_⟩
      rw [Nat.zero_add, cell_of_row w b j cur e (0, 0) hb]
      rw [← ht, List.getElem?_take] at hj
      split at hj
      · simpa using hj
      · exact absurd hj (by simp), fun ha => by
    rcases h.alt with ⟨_, hc⟩ | ⟨b, cur, rfl, _⟩
    · exact hc
    · exact absurd ha (by simp)⟩
theorem Own.of_heap (h : Own e size w a n cap xs) (he : w'.heap = w.heap) : Own e size w' a n cap xs := ⟨h.len, h.le, h.max, h.one, by rw [he]; exact h.alt⟩
theorem Own.drew (h : Own e size w a n cap xs) : Own e size w.drew a n cap xs := ⟨h.len, h.le, h.max, h.one, h.alt⟩
theorem Own.drewN (h : Own e size w a n cap xs) (k : Nat) : Own e size (w.drewN k) a n cap xs := ⟨h.len, h.le, h.max, h.one, h.alt⟩
theorem Own.bound (h : Own e size w a n cap xs) : n ≤ cap ∧ cap ≤ 9223372036854775807 := h.rd.bound
/-- a block of the call's own that was just made -/
theorem Own.made (e size : Nat) (w : World) (cur : Array Value) (n cap : Nat) (hle : n ≤ cap) (hm : cap ≤ maxLen) (hs : cur.size = cap * size) (h1 : ∀ u ∈ cur.toList.take (n * size), u.oneCell' = true) :
    Own e size (w.alloc (.cells cur e)) (some ⟨w.heap.size, 0, none⟩) n cap (cur.toList.take (n * size)) :=
  ⟨by rw [List.length_take, Array.length_toList, hs]; exact Nat.min_eq_left (Nat.mul_le_mul_right _ hle), hle, hm, h1, .inr ⟨w.heap.size, cur, rfl, heap_alloc_new w _, hs, rfl⟩⟩
/-- an element's cell is written -/
theorem Own.set (h : Own e size w a n cap xs) {b : Nat} (ha : a = some ⟨b, 0, none⟩) (j : Nat) (v : Value) (hv : v.oneCell' = true) (_ : j < n * size) : Own e size (w.setCell ⟨b, j, none⟩ v) a n cap (xs.set j v) := by
  subst ha
  refine ⟨by rw [List.length_set]; exact h.len, h.le, h.max, ?_, ?_⟩
  · intro u hu
    rcases List.mem_or_eq_of_mem_set hu with hu | rfl
    · exact h.one u hu
    · exact hv
  · rcases h.alt with ⟨hc, _⟩ | ⟨b', cur, hb', hb, hs, ht⟩
    · cases hc
    · cases hb'
      refine .inr ⟨b, cur.setIfInBounds j v, rfl, ?_, by simpa using hs, ?_⟩
      · exact setCell_heap hb j v
      · rw [Array.toList_setIfInBounds, List.take_set, ht]
theorem Own.frozen (h : Own e size w a n cap xs) {b : Nat} (ha : a = some ⟨b, 0, none⟩) (j : Nat) : w.frozen? ⟨b, j, none⟩ = false := by
  subst ha
  rcases h.alt with ⟨hc, _⟩ | ⟨b', cur, hb', hb, hs, ht⟩
  · cases hc
  · cases hb'
    simp [World.frozen?, hb]
theorem Own.at (h : Own e size w a n cap xs) (hp : 0 < n) : ∃ b, a = some ⟨b, 0, none⟩ ∧ b < w.heap.size ∧ Cells w b 0 xs := by
  obtain ⟨b, off, rfl, hb, hc⟩ := h.rd.cells hp
  rcases h.alt with ⟨hc, _⟩ | ⟨b', cur, hb', _⟩
  · cases hc
  · cases hb'
    exact ⟨b, rfl, hb, hc⟩

/-- append onto a slice of the call's own: in place, or into a new row -/
theorem run_append {t tx ty : TypeId} {i : TypeInfo} {z : Value} {bytes m : Nat} {x : Value} {news : List Value} (ht : P.underlying t = some (.slice e)) (hi : P.info? e = some i) (hz : i.zero = some z)
    (hsize : i.size = size) (hby : i.bytes = bytes) (hzs : z.cells.size = size) (hown : Own e size w a n cap xs) (hs : Src P size tx x m news w) (h63 : n + m ≤ maxLen) (hbytes : (n + m) * bytes ≤ 140737488355328) :
    ∃ a' cap' w', (Builtin.append_ #[t, tx] ty #[.slice a n cap, x]).run P w = .ok (.slice a' (n + m) cap') w' ∧ Own e size w' a' (n + m) cap' (xs ++ news) ∧ Only (At a) w w' ∧
      (∀ k, At a' k → At a k ∨ w.heap.size ≤ k) ∧ (a' = none → a = none ∧ m = 0) ∧ (m = 0 → a' = a ∧ cap' = cap) := by
  subst hsize
  subst hby
  have hone : ∀ u ∈ xs ++ news, u.oneCell' = true := fun u hu => (List.mem_append.1 hu).elim (hown.one u) (hs.one u)
  have hlen : (xs ++ news).length = (n + m) * i.size := by rw [List.length_append, hown.len, hs.newsLen, Nat.add_mul]
  have hsmall : n + m ≤ 9223372036854775807 := by simp only [maxLen] at h63; omega
  by_cases hroom : n + m ≤ cap
  · rcases hown.alt with ⟨rfl, rfl⟩ | ⟨b, cur, rfl, hb, hcs, htk⟩
    · obtain rfl : n = 0 := by omega
      obtain rfl : m = 0 := by omega
      have hn : news = [] := List.eq_nil_of_length_eq_zero (by simpa using hs.newsLen)
      have hx : xs = [] := List.eq_nil_of_length_eq_zero (by simpa using hown.len)
      subst hn; subst hx
      refine ⟨none, 0, w, ?_, Own.nil e i.size w, Only.refl _ _, fun _ h => h.elim, fun _ => ⟨rfl, rfl⟩, fun _ => ⟨rfl, rfl⟩⟩
      rcases hs.kind with ⟨e', hk⟩ | hk <;> simp [Builtin.append_, run_underlying ht, run_underlying hk, sizeOf, typeInfo, hi, hs.len, hs.cells]
    · have hsz : n * i.size + news.length ≤ cur.size := by rw [hs.newsLen, hcs, ← Nat.add_mul]; exact Nat.mul_le_mul_right _ hroom
      have hst := run_storeCells_at P b (n * i.size) e news 0 cur w hb (by simpa using hsz) hs.one
      simp only [Nat.add_zero] at hst
      have hr : (Builtin.append_ #[t, tx] ty #[.slice (some ⟨b, 0, none⟩) n cap, x]).run P w = .ok (.slice (some ⟨b, 0, none⟩) (n + m) cap) (w.setRow b (cur.toList.take (n * i.size) ++ news ++ cur.toList.drop (n * i.size + news.length)).toArray) := by
        rcases hs.kind with ⟨e', hk⟩ | hk <;> simp [Builtin.append_, run_underlying ht, run_underlying hk, sizeOf, typeInfo, hi, hs.len, hroom, hs.cells, Addr.add_lit, hst]
      refine ⟨some ⟨b, 0, none⟩, cap, _, hr, ⟨hlen, hroom, hown.max, hone, .inr ⟨b, _, rfl, setRow_heap w b cur _ e _ hb, ?_, ?_⟩⟩,
        ⟨rfl, rfl, rfl, by simp, fun k _ hk => setRow_other w b k _ (fun e => hk e.symm)⟩, fun _ h => .inl h, (fun h => by cases h), fun _ => ⟨rfl, rfl⟩⟩
      · simp only [List.size_toArray, List.length_append, List.length_take, List.length_drop, Array.length_toList]
        omega
      · simp only [htk, ← hlen]
        exact List.take_left
  · have hold : (Builtin.firstCells i.size n (.slice a n cap)).run P w.drew = .ok xs.toArray w.drew := by
      cases a with
      | none =>
        have h0 : n = 0 := by have := hown.le; rcases hown.alt with ⟨_, hc⟩ | ⟨b, cur, hb, _⟩; omega; cases hb
        subst h0
        have hx : xs = [] := List.eq_nil_of_length_eq_zero (by simpa using hown.len)
        subst hx
        exact run_firstCells_none _ _ _ _ _
      | some ad =>
        rcases hown.alt with ⟨hc, _⟩ | ⟨b, cur, hb', hb, hcs, htk⟩
        · cases hc
        · cases hb'
          refine run_firstCells_some (P := P) w.drew i.size n _ n cap xs hown.len fun j v hj => ?_
          rw [Addr.add_lit]
          rcases Nat.eq_zero_or_pos n with rfl | hp
          · have : xs = [] := List.eq_nil_of_length_eq_zero (by simpa using hown.len)
            subst this; simp at hj
          · obtain ⟨b', off', he, _, hc⟩ := hown.rd.cells hp
            cases he
            exact hc j v hj
    have hge := grownCap_ge w (n + m) cap e
    have hcm : grownCap w (n + m) cap e ≤ maxLen := grownCap_le_maxLen w (n + m) cap e h63
    have hr := run_append_grow_src (P := P) w t tx ty e i z ht hi hz a n cap xs hold x m news hs (by omega) (by omega) (growslice_fits (by omega) hbytes)
    have htake : ((xs ++ news).toArray ++ Builtin.zeroCells z.cells (grownCap w (n + m) cap e - (n + m))).toList.take ((n + m) * i.size) = xs ++ news := by
      rw [Array.toList_append]
      simp only [← hlen]
      exact List.take_left
    refine ⟨_, _, _, hr, ?_, ((Only.refl _ w).drew).alloc _, fun k hk => .inr (by have : w.heap.size = k := hk; omega), (fun h => by cases h), fun h => by have := hown.le; omega⟩
    have hm := Own.made e i.size w.drew ((xs ++ news).toArray ++ Builtin.zeroCells z.cells (grownCap w (n + m) cap e - (n + m))) (n + m) (grownCap w (n + m) cap e) hge hcm (by
      simp only [Array.size_append, List.size_toArray, size_zeroCells, hzs, hlen, ← Nat.add_mul]
      congr 1
      omega) (by rw [htake]; exact hone)
    rw [htake] at hm
    exact hm
/-- what the table says of a slice's type and of its element's -/
def SliceOf (P : Program) (t e size bytes : Nat) : Prop :=
  P.underlying t = some (.slice e) ∧ ∃ i z, P.info? e = some i ∧ i.zero = some z ∧ i.size = size ∧ i.bytes = bytes ∧ z.cells.size = size
theorem SliceOf.mk {P : Program} {t e size bytes : Nat} {z : Value} (h : P.underlying t = some (.slice e)) (h' : (P.info? e).map (fun i => (i.zero, i.size, i.bytes)) = some (some z, size, bytes)) (hz : z.cells.size = size) : SliceOf P t e size bytes := by
  obtain ⟨i, hi, h1, h2, h3⟩ := info_parts h'
  exact ⟨h, i, z, hi, h1, h2, h3, hz⟩

/-- what an append leaves: the slice that it hands back, and what may have changed -/
structure Grew (e size : Nat) (w w' : World) (a a' : Option Addr) (m N cap cap' : Nat) (XS : List Value) : Prop where
  own : Own e size w' a' N cap' XS
  only : Only (At a) w w'
  fresh : ∀ k, At a' k → At a k ∨ w.heap.size ≤ k
  nil : a' = none → a = none ∧ m = 0
  same : m = 0 → a' = a ∧ cap' = cap

/-- append: N, XS: the length and the cells behind it, in the caller's own spelling -/
theorem wpList_append {ops : Array Oper} {rest : List Oper} {o : Oper} {fr : Act} {Q : Exit → Act → World → Prop} (N : Nat) (XS : List Value) (hg : o.guard = none) (s x : Operand) (t tx : TypeId)
    (hop : o.op = .call { callee := .builtin .append, args := #[s, x], argTypes := #[t, tx] }) {bytes : Nat} (hT : SliceOf P t e size bytes)
    (hs : fr.eval s = .slice a n cap) (hown : Own e size w a n cap xs) {v : Value} {m : Nat} {news : List Value} (hx : fr.eval x = v) (hsrc : Src P size tx v m news w)
    (hN : n + m = N) (hX : xs ++ news = XS) (h63 : N ≤ maxLen) (hbytes : N * bytes ≤ 140737488355328)
    (hK : ∀ a' cap' w', Grew e size w w' a a' m N cap cap' XS →
      wpList P ops Q rest (fr.put o.dst (.slice a' N cap')) w') : wpList P ops Q (o :: rest) fr w := by
  subst hN
  subst hX
  obtain ⟨ht, i, z, hi, hz, hsize, hby, hzs⟩ := hT
  refine wpList_plain hg fun K hK' => ?_
  obtain ⟨a', cap', w', hr, h1, h2, h3, h4, h5⟩ := run_append (P := P) (ty := o.type) ht hi hz hsize hby hzs hown hsrc h63 hbytes
  unfold Oper.wp execOp
  simp only [hop, resolve, invoke, builtin, Sem.run_bind, Sem.run_pure, Result.andThen_ok, List.map_toArray, List.map_cons, List.map_nil, hs, hx, hr]
  exact hK' _ _ (hK a' cap' w' ⟨h1, h2, h3, h4, h5⟩)
/-- copy into a row that is known whole, of elements of one cell -/
theorem wpList_copy {ops : Array Oper} {rest : List Oper} {o : Oper} {fr : Act} {Q : Exit → Act → World → Prop} (k : Nat) (hg : o.guard = none) (d s : Operand) (dT sT : TypeId)
    (hop : o.op = .call { callee := .builtin .copy, args := #[d, s], argTypes := #[dT, sT] }) {bytes : Nat} (hT : SliceOf P dT e 1 bytes)
    {g off dl dc : Nat} (hd : fr.eval d = .slice (some ⟨g, off, none⟩) dl dc) {cur : Array Value} (hb : w.heap[g]? = some (.cells cur e (0, 0)))
    {sa : Option Addr} {sl sc : Nat} (hs : fr.eval s = .slice sa sl sc) {ys : List Value} (hr : Rd 1 w sa sl sc ys) (hk : k = min sl dl) (hfit : off + dl ≤ cur.size)
    (hK : ∀ w', w'.heap[g]? = some (.cells (cur.toList.take off ++ ys.take k ++ cur.toList.drop (off + k)).toArray e (0, 0)) → Only (fun j => j = g) w w' →
      wpList P ops Q rest (fr.put o.dst (.int .i64 (k : Int))) w') : wpList P ops Q (o :: rest) fr w := by
  obtain ⟨ht, i, z, hi, hz, hsize, hby, hzs⟩ := hT
  have hlen : (ys.take k).length = k := by rw [List.length_take, hr.len, hk, Nat.mul_one]; omega
  have hf : (Builtin.firstCells 1 k (.slice sa sl sc)).run P w = .ok (ys.take k).toArray w := by
    rcases Nat.eq_zero_or_pos k with h0 | hp
    · rw [h0]
      cases sa with
      | none => exact run_firstCells_none _ _ _ _ _
      | some ad => exact run_firstCells_some (P := P) w 1 0 ad sl sc [] rfl (fun j v hj => by simp at hj)
    · obtain ⟨b, of, rfl, hbl, hc⟩ := hr.cells (by omega)
      refine run_firstCells_some (P := P) w 1 k _ sl sc (ys.take k) (by rw [hlen]; omega) (fun j v hj => ?_)
      rw [Addr.add_lit]
      exact (hc.take k) j v hj
  have hst := run_storeCells_at P g off e (ys.take k) 0 cur w hb (by rw [hlen]; omega) (fun u hu => hr.one u (List.mem_of_mem_take hu))
  simp only [Nat.add_zero, hlen] at hst
  have hrun : (Builtin.copy_ #[dT, sT] o.type #[.slice (some ⟨g, off, none⟩) dl dc, .slice sa sl sc]).run P w = .ok (.int .i64 (k : Int)) (w.setRow g (cur.toList.take off ++ ys.take k ++ cur.toList.drop (off + k)).toArray) := by
    have hmin : Nat.min sl dl = k := hk.symm
    simp [Builtin.copy_, run_underlying ht, sizeOf, typeInfo, hi, hsize, Builtin.lenOf, hmin, hf, hst, goInt]
  refine wpList_plain hg fun K hK' => ?_
  unfold Oper.wp execOp
  simp only [hop, resolve, invoke, builtin, Sem.run_bind, Sem.run_pure, Result.andThen_ok, List.map_toArray, List.map_cons, List.map_nil, hs, hd, hrun]
  exact hK' _ _ (hK _ (setRow_heap w g cur _ e _ hb) ⟨rfl, rfl, rfl, by simp, fun j _ hj => setRow_other w g j _ hj⟩)

/-- make([]T, k): the very world behind it -/
theorem make_eq {t : Nat} {z : Value} {bytes : Nat} (kl kc : IntKind) (ht : P.underlying t = some (.slice e)) (h' : (P.info? e).map (fun i => (i.zero, i.size, i.bytes)) = some (some z, size, bytes)) (k : Nat)
    (hb : bytes * k ≤ 281474976710656) (hk : k ≤ 9223372036854775807) (w : World) :
    (Instr.makeSlice t (.int kl (k : Int)) (.int kc (k : Int))).run P w = .ok (.slice (some ⟨w.heap.size, 0, none⟩) k k) (w.alloc (.cells (madeCells z.cells (k * size)) e)) := by
  obtain ⟨i, hi, h1, h2, h3⟩ := info_parts h'
  have h := run_make (P := P) w t e i z ht hi h1 kl kc (k : Int) (k : Int) (by omega) (Int.le_refl _) (by rw [h3]; have : ((bytes * k : Nat) : Int) = (bytes : Int) * (k : Int) := Int.natCast_mul _ _; omega) (by omega)
  rw [h2, Int.toNat_natCast] at h
  exact h
theorem made_one (z : Value) (hz : z.cells = #[z]) (k : Nat) : (madeCells z.cells (k * 1)).toList = List.replicate k z := by
  unfold madeCells
  rw [hz]
  apply List.ext_getElem?
  intro i
  simp only [Array.toList_map, Array.toList_range, List.getElem?_map, List.getElem?_replicate, Nat.mul_one]
  by_cases h : i < k
  · rw [List.getElem?_range h]; simp [h, Nat.mod_one]
  · rw [List.getElem?_eq_none (by simpa using Nat.le_of_not_lt h)]; simp [h]
/-- a row that is known whole is owned -/
theorem Own.of_block {b : Nat} {cur : Array Value} (hb : w.heap[b]? = some (.cells cur e (0, 0))) (k cap : Nat) (hk : k ≤ cap) (hm : cap ≤ maxLen) (hs : cur.size = cap * size) (h1 : ∀ u ∈ cur.toList.take (k * size), u.oneCell' = true) :
    Own e size w (some ⟨b, 0, none⟩) k cap (cur.toList.take (k * size)) :=
  ⟨by rw [List.length_take, Array.length_toList, hs]; exact Nat.min_eq_left (Nat.mul_le_mul_right _ hk), hk, hm, h1, .inr ⟨b, cur, rfl, hb, hs, rfl⟩⟩
end own
end Go.Proofs.Ytdamanckgmkbiaa.heap

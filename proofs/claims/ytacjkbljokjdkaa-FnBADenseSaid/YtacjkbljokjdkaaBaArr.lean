/-
  Bit arrays behind the interface type: what they are, by their bits; several of them.
-/
import Derived.Test.YtacjkbljokjdkaaBaNandD
namespace Go.Proofs.Ytacjkbljokjdkaa.ba
open Go.RowKit Go.Proofs.Ytacjkbljokjdkaa.base Go.Proofs.Ytacjkbljokjdkaa.heap Go.Proofs.Ytacjkbljokjdkaa.rows Go.Proofs.Ytacjkbljokjdkaa.bit Go.Proofs.Ytacjkbljokjdkaa.bs
set_option linter.unusedVariables false

/-- an array, by its bits -/
structure BA where
  dense : Bool
  words : Nat
  set : List Nat
/-- what a dense one notes of its ends -/
def Ends (ws : List Nat) (lo hi : Nat) (any : Bool) : Prop := lo ≤ hi ∧ hi ≤ 64 * ws.length ∧ (any = false → NoB ws) ∧ (any = true → LoB ws lo ∧ HiB ws hi)
/-- the words at places -/
abbrev wf (ws : List Nat) (j : Nat) : Nat := ws.getD j 0
/-- a sparse bit array: its object, its blocks, their places -/
structure Sp (w : World) (p : Nat) (ab : Option Addr) (cb : Nat) (ai : Option Addr) (ci : Nat) (P : List (Nat × Nat)) : Prop where
  obj : w.heap[p]? = some (.cells #[.slice ab P.length cb, .slice ai P.length ci] 99 (0, 0))
  blk : Own 79 1 w ab P.length cb (U (P.map (·.2)))
  idx : Own 24 1 w ai P.length ci (U (P.map (·.1)))
  asc : PAsc P
  ok : ∀ x ∈ P, Lt64 x.2 ∧ x.2 ≠ 0 ∧ x.1 < 2 ^ 57
  nb : ¬ At ab p
  ni : ¬ At ai p
  bi : ∀ k, At ab k → ¬ At ai k
  sm : P.length ≤ 1000000
def Fs (p : Nat) (ab ai : Option Addr) (k : Nat) : Prop := k = p ∨ At ab k ∨ At ai k
/-- v is, in w, the array d; F: its blocks -/
inductive Arr (w : World) : Value → BA → (Nat → Prop) → Prop
  | dense (p : Nat) (a : Option Addr) (c : Nat) (ws : List Nat) (lo hi : Nat) (any : Bool) (l : List Nat) (h : Dn w p a c ws lo hi any) (hr : Rep (wf ws) l) (he : Ends ws lo hi any) : Arr w (.iface 85 (.pointer (some ⟨p, 0, none⟩))) ⟨true, ws.length, l⟩ (Ft p a)
  | sparse (p : Nat) (ab : Option Addr) (cb : Nat) (ai : Option Addr) (ci : Nat) (P : List (Nat × Nat)) (l : List Nat) (h : Sp w p ab cb ai ci P) (hr : Rep (wd P) l) : Arr w (.iface 87 (.pointer (some ⟨p, 0, none⟩))) ⟨false, 0, l⟩ (Fs p ab ai)
section
variable {w w' : World}
theorem Sp.keep {p cb ci : Nat} {ab ai : Option Addr} {P : List (Nat × Nat)} {S : Nat → Prop} (h : Sp w p ab cb ai ci P) (ho : Only S w w') (hn : ∀ k, Fs p ab ai k → ¬ S k) : Sp w' p ab cb ai ci P :=
  ⟨ho.obj h.obj (hn _ (.inl rfl)), h.blk.keep ho (fun k hk => hn k (.inr (.inl hk))), h.idx.keep ho (fun k hk => hn k (.inr (.inr hk))), h.asc, h.ok, h.nb, h.ni, h.bi, h.sm⟩
theorem Sp.lt {p cb ci : Nat} {ab ai : Option Addr} {P : List (Nat × Nat)} (h : Sp w p ab cb ai ci P) : ∀ k, Fs p ab ai k → k < w.heap.size := by
  rintro k (rfl | hk | hk)
  · exact lt_of_heap h.obj
  · exact h.blk.lt k hk
  · exact h.idx.lt k hk
theorem Arr.keep {v : Value} {d : BA} {F S : Nat → Prop} (h : Arr w v d F) (ho : Only S w w') (hn : ∀ k, F k → ¬ S k) : Arr w' v d F := by
  cases h with
  | dense p a c ws lo hi any l h hr he => exact .dense p a c ws lo hi any l (h.keep ho hn) hr he
  | sparse p ab cb ai ci P l h hr => exact .sparse p ab cb ai ci P l (h.keep ho hn) hr
theorem Arr.lt {v : Value} {d : BA} {F : Nat → Prop} (h : Arr w v d F) : ∀ k, F k → k < w.heap.size := by
  cases h with
  | dense p a c ws lo hi any l h hr he => exact h.lt
  | sparse p ab cb ai ci P l h hr => exact h.lt
theorem Arr.asc {v : Value} {d : BA} {F : Nat → Prop} (h : Arr w v d F) : Asc d.set := by
  cases h with
  | dense p a c ws lo hi any l h hr he => exact hr.1
  | sparse p ab cb ai ci P l h hr => exact hr.1
end
/-- an array behind its value, and its blocks -/
structure It where
  v : Value
  d : BA
  F : Nat → Prop
/-- several arrays; q: what holds them, a: their row -/
structure Sta (w : World) (q : Nat) (a : Option Addr) (c : Nat) (l : List It) : Prop where
  obj : w.heap[q]? = some (.cells #[.slice a l.length c] 58 (0, 0))
  row : Own 62 1 w a l.length c (l.map (·.v))
  nap : ¬ At a q
  arr : ∀ x ∈ l, Arr w x.v x.d x.F ∧ ¬ x.F q ∧ ∀ k, At a k → ¬ x.F k
  dis : l.Pairwise fun x y => ∀ k, x.F k → ¬ y.F k
/-- the blocks of all -/
def Fo (q : Nat) (a : Option Addr) (l : List It) (k : Nat) : Prop := k = q ∨ At a k ∨ ∃ x ∈ l, x.F k
section
variable {w w' : World} {q c : Nat} {a : Option Addr} {l : List It}
theorem Sta.keep {S : Nat → Prop} (h : Sta w q a c l) (ho : Only S w w') (hn : ∀ k, Fo q a l k → ¬ S k) : Sta w' q a c l :=
  ⟨ho.obj h.obj (hn _ (.inl rfl)), h.row.keep ho (fun k hk => hn k (.inr (.inl hk))), h.nap, fun x hx => ⟨(h.arr x hx).1.keep ho (fun k hk => hn k (.inr (.inr ⟨x, hx, hk⟩))), (h.arr x hx).2⟩, h.dis⟩
theorem Sta.still (h : Sta w q a c l) (ho : Same w w') : Sta w' q a c l := h.keep ho (fun _ _ => id)
theorem Sta.lt (h : Sta w q a c l) : ∀ k, Fo q a l k → k < w.heap.size := by
  rintro k (rfl | hk | ⟨x, hx, hk⟩)
  · exact lt_of_heap h.obj
  · exact h.row.lt k hk
  · exact (h.arr x hx).1.lt k hk
/-- the i-th array -/
theorem Sta.get (h : Sta w q a c l) {i : Nat} {x : It} (hx : l[i]? = some x) : Arr w x.v x.d x.F := (h.arr x (List.mem_of_getElem? hx)).1
/-- the i-th array has turned, and no other one -/
theorem Sta.set (h : Sta w q a c l) {i : Nat} {x y : It} (hx : l[i]? = some x) (hv : y.v = x.v) (hF : ∀ k, y.F k → x.F k ∨ w.heap.size ≤ k) (hy : Arr w' y.v y.d y.F) (ho : Only x.F w w') : Sta w' q a c (l.set i y) := by
  have hm := List.mem_of_getElem? hx
  have hi : i < l.length := (List.getElem?_eq_some_iff.1 hx).1
  have hxi : l[i] = x := by
    have := hx
    rw [List.getElem?_eq_getElem hi] at this
    exact Option.some.inj this
  have hmap : (l.set i y).map (·.v) = l.map (·.v) := by
    apply List.ext_getElem?
    intro j
    rw [List.getElem?_map, List.getElem?_map, List.getElem?_set]
    by_cases e : i = j
    · subst e
      simp [hi, hxi, hv]
    · simp [e]
  have hq := (h.arr x hm).2.1
  have ha := (h.arr x hm).2.2
  have hql := lt_of_heap h.obj
  refine ⟨?_, ?_, h.nap, ?_, ?_⟩
  · rw [List.length_set]; exact ho.obj h.obj hq
  · rw [List.length_set, hmap]; exact h.row.keep ho ha
  · intro z hz
    obtain ⟨j, hj, rfl⟩ := List.getElem_of_mem hz
    rw [List.length_set] at hj
    rw [List.getElem_set]
    by_cases e : i = j
    · simp only [e, if_true]
      refine ⟨hy, fun h1 => ?_, fun k hk h1 => ?_⟩
      · rcases hF q h1 with h2 | h2
        · exact hq h2
        · omega
      · rcases hF k h1 with h2 | h2
        · exact ha k hk h2
        · have := h.row.lt k hk; omega
    · simp only [e, if_false]
      have hz' := h.arr l[j] (List.getElem_mem hj)
      refine ⟨hz'.1.keep ho (fun k hk hk2 => ?_), hz'.2⟩
      rcases Nat.lt_or_gt_of_ne e with hlt | hlt
      · have := List.pairwise_iff_getElem.1 h.dis i j hi hj hlt k (by rw [hxi]; exact hk2)
        exact this hk
      · have := List.pairwise_iff_getElem.1 h.dis j i hj hi hlt k hk
        rw [hxi] at this
        exact this hk2
  · refine List.pairwise_iff_getElem.2 fun m n hm' hn' hmn k hk hk2 => ?_
    rw [List.length_set] at hm' hn'
    have hp := List.pairwise_iff_getElem.1 h.dis
    have hlt : ∀ j (hj : j < l.length) k, l[j].F k → k < w.heap.size := fun j hj k hk => (h.arr _ (List.getElem_mem hj)).1.lt k hk
    rw [List.getElem_set] at hk hk2
    by_cases e : i = m
    · simp only [e, if_true] at hk
      have e2 : ¬ i = n := by omega
      simp only [e2, if_false] at hk2
      rcases hF k hk with h1 | h1
      · exact hp m n hm' hn' hmn k (by subst e; rw [hxi]; exact h1) hk2
      · have := hlt n hn' k hk2; omega
    · simp only [e, if_false] at hk
      by_cases e2 : i = n
      · simp only [e2, if_true] at hk2
        rcases hF k hk2 with h1 | h1
        · exact hp m n hm' hn' hmn k hk (by subst e2; rw [hxi]; exact h1)
        · have := hlt m hm' k hk; omega
      · simp only [e2, if_false] at hk2
        exact hp m n hm' hn' hmn k hk hk2
theorem Fo.set {i : Nat} {x y : It} {n : Nat} (hx : l[i]? = some x) (hF : ∀ k, y.F k → x.F k ∨ n ≤ k) (k : Nat) (hk : Fo q a (l.set i y) k) : Fo q a l k ∨ n ≤ k := by
  rcases hk with h | h | ⟨z, hz, hk⟩
  · exact .inl (.inl h)
  · exact .inl (.inr (.inl h))
  · obtain ⟨j, hj, rfl⟩ := List.getElem_of_mem hz
    rw [List.length_set] at hj
    rw [List.getElem_set] at hk
    by_cases e : i = j
    · simp only [e, if_true] at hk
      exact (hF k hk).imp (fun h => .inr (.inr ⟨x, List.mem_of_getElem? hx, h⟩)) id
    · simp only [e, if_false] at hk
      exact .inl (.inr (.inr ⟨_, List.getElem_mem hj, hk⟩))
/-- a further array stands behind -/
theorem Sta.snoc {a' : Option Addr} {c' : Nat} {S : Nat → Prop} (h : Sta w q a c l) {y : It} (hobj : w'.heap[q]? = some (.cells #[.slice a' (l.length + 1) c'] 58 (0, 0))) (hrow : Own 62 1 w' a' (l.length + 1) c' (l.map (·.v) ++ [y.v]))
    (hy : Arr w' y.v y.d y.F) (hyq : ¬ y.F q) (hya : ∀ k, At a' k → ¬ y.F k) (hyl : ∀ x ∈ l, ∀ k, x.F k → ¬ y.F k) (ho : Only S w w') (hS : ∀ x ∈ l, ∀ k, x.F k → ¬ S k) (ha' : ∀ k, At a' k → At a k ∨ w.heap.size ≤ k) : Sta w' q a' c' (l ++ [y]) := by
  have hq := lt_of_heap h.obj
  refine ⟨by rw [List.length_append]; exact hobj, by rw [List.length_append, List.map_append]; exact hrow, fun e => ?_, fun x hx => ?_, List.pairwise_append.2 ⟨h.dis, List.pairwise_singleton _ _, fun x hx z hz => ?_⟩⟩
  · rcases ha' q e with h1 | h1
    · exact h.nap h1
    · omega
  · rcases List.mem_append.1 hx with hx | hx
    · have := h.arr x hx
      refine ⟨this.1.keep ho (hS x hx), this.2.1, fun k hk => ?_⟩
      rcases ha' k hk with h1 | h1
      · exact this.2.2 k h1
      · exact fun h2 => absurd (this.1.lt k h2) (by omega)
    · rw [List.mem_singleton] at hx
      subst hx
      exact ⟨hy, hyq, hya⟩
  · rw [List.mem_singleton] at hz
    subst hz
    exact hyl x hx
end
/-- a new dense array is one by its bits -/
theorem Arr.ofFin {w w' : World} {p : Nat} {a : Option Addr} {c lo hi : Nat} {ws l : List Nat} {any : Bool} (h : Dn w' p a c ws lo hi any) (hf : Fin ws lo hi any) (hr : Rep (wf ws) l) : Arr w' (.iface 85 (.pointer (some ⟨p, 0, none⟩))) ⟨true, ws.length, l⟩ (Ft p a) := by
  refine .dense p a c ws lo hi any l h hr ?_
  rcases hf with ⟨h1, rfl, rfl, rfl⟩ | ⟨h1, h2, rfl⟩
  · exact ⟨Nat.le_refl _, Nat.zero_le _, fun _ => h1, fun e => by cases e⟩
  · refine ⟨h1.2 _ h2.1, ?_, fun e => (by cases e), fun _ => ⟨h1, h2⟩⟩
    rcases Nat.lt_or_ge hi (64 * ws.length) with h3 | h3
    · omega
    · have := bit_far ws hi h3
      rw [h2.1] at this; cases this
end Go.Proofs.Ytacjkbljokjdkaa.ba

/-
  Lists of structs in memory: each element is written as K cells by a function c.
-/
import Derived.Test.YtdamanckgmkbiaaRw
namespace Go.Proofs.Ytdamanckgmkbiaa.rows
open Go.RowKit Go.Proofs.Ytdamanckgmkbiaa.heap
set_option linter.unusedVariables false

section
variable {α : Type} {c : α → List Value} {K : Nat}
theorem flat_len (hc : ∀ x, (c x).length = K) : ∀ l : List α, (l.flatMap c).length = l.length * K
  | [] => by simp
  | x :: l => by rw [List.flatMap_cons, List.length_append, hc, flat_len hc l, List.length_cons, Nat.add_mul]; omega
theorem flat_get (hc : ∀ x, (c x).length = K) : ∀ (l : List α) (i j : Nat) (x : α) (v : Value), l[i]? = some x → (c x)[j]? = some v → (l.flatMap c)[i * K + j]? = some v
  | [], i, j, x, v, h, _ => by simp at h
  | y :: l, 0, j, x, v, h, hv => by
    simp at h; subst h
    have hj : j < (c y).length := (List.getElem?_eq_some_iff.1 hv).1
    rw [List.flatMap_cons, Nat.zero_mul, Nat.zero_add, List.getElem?_append_left hj]
    exact hv
  | y :: l, i + 1, j, x, v, h, hv => by
    have := flat_get hc l i j x v (by simpa using h) hv
    rw [List.flatMap_cons, List.getElem?_append_right (by rw [hc, Nat.add_mul]; omega), hc]
    rw [show (i + 1) * K + j - K = i * K + j by rw [Nat.add_mul]; omega]
    exact this
theorem flat_one (h1 : ∀ x, ∀ u ∈ c x, u.oneCell' = true) (l : List α) : ∀ u ∈ l.flatMap c, u.oneCell' = true := fun u hu => by
  obtain ⟨x, _, hx⟩ := List.mem_flatMap.1 hu
  exact h1 x u hx
theorem flat_snoc (l : List α) (x : α) : (l ++ [x]).flatMap c = l.flatMap c ++ c x := by simp

variable {w w' : World} {a : Option Addr} {n cap e : Nat} {l : List α}
/-- a slice of structs that is read -/
def RS (c : α → List Value) (K : Nat) (w : World) (a : Option Addr) (n cap : Nat) (l : List α) : Prop := Rd K w a n cap (l.flatMap c) ∧ l.length = n
/-- such a slice of the call's own -/
def OS (e : Nat) (c : α → List Value) (K : Nat) (w : World) (a : Option Addr) (n cap : Nat) (l : List α) : Prop := Own e K w a n cap (l.flatMap c) ∧ l.length = n
theorem RS.keep {S : Nat → Prop} (h : RS c K w a n cap l) (ho : Only S w w') (hn : ∀ k, At a k → ¬ S k) : RS c K w' a n cap l := ⟨h.1.keep ho hn, h.2⟩
theorem RS.still (h : RS c K w a n cap l) (ho : Same w w') : RS c K w' a n cap l := h.keep ho (fun _ _ => id)
theorem RS.nil (c : α → List Value) (K : Nat) (w : World) : RS c K w none 0 0 [] := ⟨Rd.nil w K, rfl⟩
theorem RS.bound (h : RS c K w a n cap l) : n ≤ cap ∧ cap ≤ 9223372036854775807 := h.1.bound
theorem RS.at (hc : ∀ x, (c x).length = K) (h : RS c K w a n cap l) (h0 : 0 < n) :
    ∃ b off, a = some ⟨b, off, none⟩ ∧ b < w.heap.size ∧ ∀ i x, l[i]? = some x → ∀ j v, (c x)[j]? = some v → w.cell? ⟨b, off + i * K + j, none⟩ = some v := by
  obtain ⟨b, off, ha, hb, hcs⟩ := h.1.cells h0
  exact ⟨b, off, ha, hb, fun i x hx j v hv => by
    have := hcs _ _ (flat_get hc l i j x v hx hv)
    rwa [← Nat.add_assoc] at this⟩
theorem RS.get (h : RS c K w a n cap l) {k : Nat} (hk : k < n) : ∃ x, l[k]? = some x := ⟨l[k]'(by rw [h.2]; exact hk), List.getElem?_eq_getElem _⟩
theorem OS.rs (h : OS e c K w a n cap l) : RS c K w a n cap l := ⟨h.1.rd, h.2⟩
theorem OS.keep {S : Nat → Prop} (h : OS e c K w a n cap l) (ho : Only S w w') (hn : ∀ k, At a k → ¬ S k) : OS e c K w' a n cap l := ⟨h.1.keep ho hn, h.2⟩
theorem OS.still (h : OS e c K w a n cap l) (ho : Same w w') : OS e c K w' a n cap l := h.keep ho (fun _ _ => id)
theorem OS.nil (e : Nat) (c : α → List Value) (K : Nat) (w : World) : OS e c K w none 0 0 [] := ⟨Own.nil e K w, rfl⟩
theorem OS.bound (h : OS e c K w a n cap l) : n ≤ cap ∧ cap ≤ 9223372036854775807 := h.1.bound
end
theorem step_app {P : Program} {e size : TypeId} {w : World} {a0 : Option Addr} {n cap : Nat} {xs : List Value} {ops : Array Oper} {o : Oper} {fr : Act} {K : Act → World → Prop} {Q : Exit → Act → World → Prop} {E : Prop} (N : Nat) (XS : List Value) (hg : o.guard = none) (s x : Operand) (t tx : TypeId)
    (hop : o.op = .call { callee := .builtin .append, args := #[s, x], argTypes := #[t, tx] }) {bytes : Nat} (hT : SliceOf P t e size bytes)
    (hs : fr.eval s = .slice a0 n cap) (hown : Own e size w a0 n cap xs) {v : Value} {m : Nat} {news : List Value} (hx : fr.eval x = v) (hsrc : Src P size tx v m news w)
    (hN : n + m = N) (hX : xs ++ news = XS) (h63 : N ≤ maxLen) (hbytes : N * bytes ≤ 140737488355328)
    (hK : ∀ a' cap' w', Grew e size w w' a0 a' m N cap cap' XS → K (fr.put o.dst (.slice a' N cap')) w') :
    if Region.wanted o (yielded ops fr.tmps) = true then Oper.wp P o fr w K Q else E := by
  have hw : Region.wanted o (yielded ops fr.tmps) = true := by simp [Region.wanted, hg]
  rw [if_pos hw]
  subst hN
  subst hX
  obtain ⟨ht, i, z, hi, hz, hsize, hby, hzs⟩ := hT
  obtain ⟨a', cap', w', hr, h1, h2, h3, h4, h5⟩ := run_append (P := P) (ty := o.type) ht hi hz hsize hby hzs hown hsrc h63 hbytes
  unfold Oper.wp execOp
  simp only [hop, resolve, invoke, builtin, Sem.run_bind, Sem.run_pure, Result.andThen_ok, List.map_toArray, List.map_cons, List.map_nil, hs, hx, hr]
  exact hK _ _ _ ⟨h1, h2, h3, h4, h5⟩
end Go.Proofs.Ytdamanckgmkbiaa.rows

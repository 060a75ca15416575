/-
  Parts of a slice that is read; append onto a slice without room, of any number of elements, none too.
-/
import Derived.Test.YtdamanckgmkbiaaApp
import Derived.Test.YtdamanckgmkbiaaSt
namespace Go.Proofs.Ytdamanckgmkbiaa.heap
open Go.RowKit Go.Proofs.Ytdamanckgmkbiaa.rows
section
variable {P : Program} {e size : Nat} {w w' : World} {a : Option Addr} {n cap : Nat} {xs : List Value}
theorem Rd.take (h : Rd size w a n cap xs) {k c : Nat} (hk : k ≤ n) (hc : k ≤ c) (hc2 : c ≤ cap) : Rd size w a k c (xs.take (k * size)) :=
  ⟨by rw [List.length_take, h.len]; exact Nat.min_eq_left (Nat.mul_le_mul_right _ hk), hc, Nat.le_trans hc2 h.max, fun u hu => h.one u (List.mem_of_mem_take hu), fun h0 => by
    obtain ⟨b, off, ha, hb, hcs⟩ := h.cells (by omega)
    exact ⟨b, off, ha, hb, hcs.take _⟩, fun e => by have := h.nilcap e; omega⟩
theorem Rd.drop {b off : Nat} (h : Rd size w (some ⟨b, off, none⟩) n cap xs) {k : Nat} (hk : k ≤ n) : Rd size w (some ⟨b, off + k * size, none⟩) (n - k) (cap - k) (xs.drop (k * size)) :=
  ⟨by rw [List.length_drop, h.len, Nat.sub_mul], by have := h.le; omega, by have := h.max; omega, fun u hu => h.one u (List.mem_of_mem_drop hu), fun h0 => by
    obtain ⟨b', off', ha, hb, hcs⟩ := h.cells (by omega)
    cases ha
    exact ⟨_, _, rfl, hb, hcs.drop _⟩, fun e => by cases e⟩
theorem flatMap_take {α : Type} {c : α → List Value} {K : Nat} (hc : ∀ x, (c x).length = K) : ∀ (l : List α) (k : Nat), (l.take k).flatMap c = (l.flatMap c).take (k * K)
  | [], k => by simp
  | x :: l, 0 => by simp
  | x :: l, k + 1 => by
    rw [List.take_succ_cons, List.flatMap_cons, List.flatMap_cons, flatMap_take hc l k, Nat.add_mul, Nat.one_mul, Nat.add_comm, ← hc x, List.take_length_add_append]
theorem flatMap_drop {α : Type} {c : α → List Value} {K : Nat} (hc : ∀ x, (c x).length = K) : ∀ (l : List α) (k : Nat), (l.drop k).flatMap c = (l.flatMap c).drop (k * K)
  | [], k => by simp
  | x :: l, 0 => by simp
  | x :: l, k + 1 => by
    rw [List.drop_succ_cons, List.flatMap_cons, flatMap_drop hc l k, Nat.add_mul, Nat.one_mul, Nat.add_comm, ← hc x, List.drop_length_add_append]
/-- what such an append leaves -/
structure App (size : Nat) (w w' : World) (a' : Option Addr) (N cap' : Nat) (XS : List Value) : Prop where
  rd : Rd size w' a' N cap' XS
  same : Same w w'
theorem run_append_any {t tx ty : TypeId} {i : TypeInfo} {z : Value} {bytes m : Nat} {x : Value} {news : List Value} (ht : P.underlying t = some (.slice e)) (hi : P.info? e = some i) (hz : i.zero = some z)
    (hsize : i.size = size) (hby : i.bytes = bytes) (hzs : z.cells.size = size) (hrd : Rd size w a n n xs) (hs : Src P size tx x m news w) (h63 : n + m ≤ maxLen) (hbytes : (n + m) * bytes ≤ 140737488355328) :
    ∃ a' cap' w', (Builtin.append_ #[t, tx] ty #[.slice a n n, x]).run P w = .ok (.slice a' (n + m) cap') w' ∧ App size w w' a' (n + m) cap' (xs ++ news) := by
  rcases Nat.eq_zero_or_pos m with rfl | hm
  · have hn : news = [] := List.eq_nil_of_length_eq_zero (by simpa using hs.newsLen)
    subst hn
    refine ⟨a, n, w, ?_, ⟨by rw [List.append_nil]; exact hrd, Only.refl _ _⟩⟩
    subst hsize
    rcases hs.kind with ⟨e', hk⟩ | hk <;> cases a <;> simp [Builtin.append_, run_underlying ht, run_underlying hk, sizeOf, typeInfo, hi, hs.len, hs.cells, storeCells]
  · obtain ⟨a', cap', w', hr, h1, h2, _⟩ := run_append_full (P := P) (ty := ty) ht hi hz hsize hby hzs hrd hm hs h63 hbytes
    exact ⟨a', cap', w', hr, ⟨h1.rd, h2⟩⟩
theorem step_append_any {ops : Array Oper} {o : Oper} {fr : Act} {K : Act → World → Prop} {Q : Exit → Act → World → Prop} {E : Prop} (N : Nat) (XS : List Value) (hg : o.guard = none) (s x : Operand) (t tx : TypeId)
    (hop : o.op = .call { callee := .builtin .append, args := #[s, x], argTypes := #[t, tx] }) {bytes : Nat} (hT : SliceOf P t e size bytes)
    (hs : fr.eval s = .slice a n n) (hrd : Rd size w a n n xs) {v : Value} {m : Nat} {news : List Value} (hx : fr.eval x = v) (hsrc : Src P size tx v m news w)
    (hN : n + m = N) (hX : xs ++ news = XS) (h63 : N ≤ maxLen) (hbytes : N * bytes ≤ 140737488355328)
    (hK : ∀ a' cap' w', App size w w' a' N cap' XS → K (fr.put o.dst (.slice a' N cap')) w') :
    if Region.wanted o (yielded ops fr.tmps) = true then Oper.wp P o fr w K Q else E := by
  have hw : Region.wanted o (yielded ops fr.tmps) = true := by simp [Region.wanted, hg]
  rw [if_pos hw]
  subst hN
  subst hX
  obtain ⟨ht, i, z, hi, hz, hsize, hby, hzs⟩ := hT
  obtain ⟨a', cap', w', hr, h1⟩ := run_append_any (P := P) (ty := o.type) ht hi hz hsize hby hzs hrd hsrc h63 hbytes
  unfold Oper.wp execOp
  simp only [hop, resolve, invoke, builtin, Sem.run_bind, Sem.run_pure, Result.andThen_ok, List.map_toArray, List.map_cons, List.map_nil, hs, hx, hr]
  exact hK _ _ _ h1
theorem wpList_append_any {ops : Array Oper} {rest : List Oper} {o : Oper} {fr : Act} {Q : Exit → Act → World → Prop} (N : Nat) (XS : List Value) (hg : o.guard = none) (s x : Operand) (t tx : TypeId)
    (hop : o.op = .call { callee := .builtin .append, args := #[s, x], argTypes := #[t, tx] }) {bytes : Nat} (hT : SliceOf P t e size bytes)
    (hs : fr.eval s = .slice a n n) (hrd : Rd size w a n n xs) {v : Value} {m : Nat} {news : List Value} (hx : fr.eval x = v) (hsrc : Src P size tx v m news w)
    (hN : n + m = N) (hX : xs ++ news = XS) (h63 : N ≤ maxLen) (hbytes : N * bytes ≤ 140737488355328)
    (hK : ∀ a' cap' w', App size w w' a' N cap' XS → wpList P ops Q rest (fr.put o.dst (.slice a' N cap')) w') : wpList P ops Q (o :: rest) fr w := by
  subst hN
  subst hX
  obtain ⟨ht, i, z, hi, hz, hsize, hby, hzs⟩ := hT
  refine wpList_plain hg fun K hK' => ?_
  obtain ⟨a', cap', w', hr, h1⟩ := run_append_any (P := P) (ty := o.type) ht hi hz hsize hby hzs hrd hsrc h63 hbytes
  unfold Oper.wp execOp
  simp only [hop, resolve, invoke, builtin, Sem.run_bind, Sem.run_pure, Result.andThen_ok, List.map_toArray, List.map_cons, List.map_nil, hs, hx, hr]
  exact hK' _ _ (hK a' cap' w' h1)
end
end Go.Proofs.Ytdamanckgmkbiaa.heap

/-
  append onto a slice without room, that is only read: always a new row; slices of two numbers.
-/
import Derived.Test.YtdamanckgmkbiaaRw
namespace Go.Proofs.Ytdamanckgmkbiaa.heap
open Go.RowKit
section
variable {P : Program} {e size : Nat} {w w' : World} {a : Option Addr} {n cap : Nat} {xs : List Value}
theorem run_append_full {t tx ty : TypeId} {i : TypeInfo} {z : Value} {bytes m : Nat} {x : Value} {news : List Value} (ht : P.underlying t = some (.slice e)) (hi : P.info? e = some i) (hz : i.zero = some z)
    (hsize : i.size = size) (hby : i.bytes = bytes) (hzs : z.cells.size = size) (hrd : Rd size w a n n xs) (hm : 0 < m) (hs : Src P size tx x m news w) (h63 : n + m ≤ maxLen) (hbytes : (n + m) * bytes ≤ 140737488355328) :
    ∃ a' cap' w', (Builtin.append_ #[t, tx] ty #[.slice a n n, x]).run P w = .ok (.slice a' (n + m) cap') w' ∧ Own e size w' a' (n + m) cap' (xs ++ news) ∧ Only (fun _ => False) w w' ∧ ∀ k, At a' k → w.heap.size ≤ k := by
  subst hsize
  subst hby
  have hone : ∀ u ∈ xs ++ news, u.oneCell' = true := fun u hu => (List.mem_append.1 hu).elim (hrd.one u) (hs.one u)
  have hlen : (xs ++ news).length = (n + m) * i.size := by rw [List.length_append, hrd.len, hs.newsLen, Nat.add_mul]
  have hsmall : n + m ≤ 9223372036854775807 := by simp only [maxLen] at h63; omega
  have hold : (Builtin.firstCells i.size n (.slice a n n)).run P w.drew = .ok xs.toArray w.drew := by
    cases a with
    | none =>
      have h0 : n = 0 := hrd.nilcap rfl
      subst h0
      have hx : xs = [] := List.eq_nil_of_length_eq_zero (by simpa using hrd.len)
      subst hx
      exact run_firstCells_none _ _ _ _ _
    | some ad =>
      rcases Nat.eq_zero_or_pos n with rfl | hp
      · refine run_firstCells_some (P := P) w.drew i.size 0 _ 0 0 xs hrd.len fun j v hj => ?_
        have : xs = [] := List.eq_nil_of_length_eq_zero (by simpa using hrd.len)
        subst this; simp at hj
      · obtain ⟨b', off', he, _, hc⟩ := hrd.cells hp
        cases he
        refine run_firstCells_some (P := P) w.drew i.size n _ n n xs hrd.len fun j v hj => ?_
        rw [Addr.add_lit]
        exact hc j v hj
  have hge := grownCap_ge w (n + m) n e
  have hcm : grownCap w (n + m) n e ≤ maxLen := grownCap_le_maxLen w (n + m) n e h63
  have hr := run_append_grow_src (P := P) w t tx ty e i z ht hi hz a n n xs hold x m news hs (by omega) (by omega) (growslice_fits (by omega) hbytes)
  have htake : ((xs ++ news).toArray ++ Builtin.zeroCells z.cells (grownCap w (n + m) n e - (n + m))).toList.take ((n + m) * i.size) = xs ++ news := by
    rw [Array.toList_append]
    simp only [← hlen]
    exact List.take_left
  refine ⟨_, _, _, hr, ?_, ((Only.refl _ w).drew).alloc _, fun k hk => by have : w.heap.size = k := hk; omega⟩
  have hmm := Own.made e i.size w.drew ((xs ++ news).toArray ++ Builtin.zeroCells z.cells (grownCap w (n + m) n e - (n + m))) (n + m) (grownCap w (n + m) n e) hge hcm (by
    simp only [Array.size_append, List.size_toArray, size_zeroCells, hzs, hlen, ← Nat.add_mul]
    congr 1
    omega) (by rw [htake]; exact hone)
  rw [htake] at hmm
  exact hmm

structure Full (e size : Nat) (w w' : World) (a' : Option Addr) (N cap' : Nat) (XS : List Value) : Prop where
  own : Own e size w' a' N cap' XS
  only : Only (fun _ => False) w w'
  fresh : ∀ k, At a' k → w.heap.size ≤ k

theorem step_append_full {ops : Array Oper} {o : Oper} {fr : Act} {K : Act → World → Prop} {Q : Exit → Act → World → Prop} {E : Prop} (N : Nat) (XS : List Value) (hg : o.guard = none) (s x : Operand) (t tx : TypeId)
    (hop : o.op = .call { callee := .builtin .append, args := #[s, x], argTypes := #[t, tx] }) {bytes : Nat} (hT : SliceOf P t e size bytes)
    (hs : fr.eval s = .slice a n n) (hrd : Rd size w a n n xs) {v : Value} {m : Nat} {news : List Value} (hx : fr.eval x = v) (hsrc : Src P size tx v m news w) (hm : 0 < m)
    (hN : n + m = N) (hX : xs ++ news = XS) (h63 : N ≤ maxLen) (hbytes : N * bytes ≤ 140737488355328)
    (hK : ∀ a' cap' w', Full e size w w' a' N cap' XS → K (fr.put o.dst (.slice a' N cap')) w') :
    if Region.wanted o (yielded ops fr.tmps) = true then Oper.wp P o fr w K Q else E := by
  have hw : Region.wanted o (yielded ops fr.tmps) = true := by simp [Region.wanted, hg]
  rw [if_pos hw]
  subst hN
  subst hX
  obtain ⟨ht, i, z, hi, hz, hsize, hby, hzs⟩ := hT
  obtain ⟨a', cap', w', hr, h1, h2, h3⟩ := run_append_full (P := P) (ty := o.type) ht hi hz hsize hby hzs hrd hm hsrc h63 hbytes
  unfold Oper.wp execOp
  simp only [hop, resolve, invoke, builtin, Sem.run_bind, Sem.run_pure, Result.andThen_ok, List.map_toArray, List.map_cons, List.map_nil, hs, hx, hr]
  exact hK _ _ _ ⟨h1, h2, h3⟩
theorem Rd.cut (h : Rd size w a n cap xs) : Rd size w a n n xs := ⟨h.len, Nat.le_refl _, Nat.le_trans h.le h.max, h.one, h.cells, fun e => by have := h.nilcap e; have := h.le; omega⟩
end
end Go.Proofs.Ytdamanckgmkbiaa.heap

/-
  append onto a slice of the call's own: what the old slice reads behind it.
-/
import Derived.Test.YtacjkbljokjdkaaCut
namespace Go.Proofs.Ytacjkbljokjdkaa.heap
open Go.RowKit Go.Proofs.Ytacjkbljokjdkaa.rows
section
variable {P : Program} {e size : Nat} {w w' : World} {a : Option Addr} {n cap : Nat} {xs : List Value}
/-- append onto a slice of the call's own: in place, or into a new row -/
theorem run_append_old {t tx ty : TypeId} {i : TypeInfo} {z : Value} {bytes m : Nat} {x : Value} {news : List Value} (ht : P.underlying t = some (.slice e)) (hi : P.info? e = some i) (hz : i.zero = some z)
    (hsize : i.size = size) (hby : i.bytes = bytes) (hzs : z.cells.size = size) (hown : Own e size w a n cap xs) (hs : Src P size tx x m news w) (h63 : n + m ≤ maxLen) (hbytes : (n + m) * bytes ≤ 140737488355328) :
    ∃ a' cap' w', (Builtin.append_ #[t, tx] ty #[.slice a n cap, x]).run P w = .ok (.slice a' (n + m) cap') w' ∧ Own e size w' a' (n + m) cap' (xs ++ news) ∧ Only (At a) w w' ∧
      (∀ k, At a' k → At a k ∨ w.heap.size ≤ k) ∧ (a' = none → a = none ∧ m = 0) ∧ (m = 0 → a' = a ∧ cap' = cap) ∧ Rd size w' a n cap xs := by
  subst hsize
  subst hby
  have hone : ∀ u ∈ xs ++ news, u.oneCell' = true := fun u hu => (List.mem_append.1 hu).elim (hown.one u) (hs.one u)
  have hlen : (xs ++ news).length = (n + m) * i.size := by rw [List.length_append, hown.len, hs.newsLen, Nat.add_mul]
  have hsmall : n + m ≤ 9223372036854775807 := by simp only [maxLen] at h63; omega
  by_cases hroom : n + m ≤ cap
  · rcases hown.alt with ⟨rfl, rfl⟩ | ⟨b, cur, rfl, hb, hcs, htk⟩
    · obtain rfl : n = 0 := by omega
      obtain rfl : m = 0 := by omega
      have hn : news = [] := List.eq_nil_of_length_eq_zero (by simpa using hs.newsLen)
      have hx : xs = [] := List.eq_nil_of_length_eq_zero (by simpa using hown.len)
      subst hn; subst hx
      refine ⟨none, 0, w, ?_, Own.nil e i.size w, Only.refl _ _, fun _ h => h.elim, fun _ => ⟨rfl, rfl⟩, fun _ => ⟨rfl, rfl⟩, hown.rd⟩
      rcases hs.kind with ⟨e', hk⟩ | hk <;> simp [Builtin.append_, run_underlying ht, run_underlying hk, sizeOf, typeInfo, hi, hs.len, hs.cells]
    · have hsz : n * i.size + news.length ≤ cur.size := by rw [hs.newsLen, hcs, ← Nat.add_mul]; exact Nat.mul_le_mul_right _ hroom
      have hst := run_storeCells_at P b (n * i.size) e news 0 cur w hb (by simpa using hsz) hs.one
      simp only [Nat.add_zero] at hst
      have hr : (Builtin.append_ #[t, tx] ty #[.slice (some ⟨b, 0, none⟩) n cap, x]).run P w = .ok (.slice (some ⟨b, 0, none⟩) (n + m) cap) (w.setRow b (cur.toList.take (n * i.size) ++ news ++ cur.toList.drop (n * i.size + news.length)).toArray) := by
        rcases hs.kind with ⟨e', hk⟩ | hk <;> simp [Builtin.append_, run_underlying ht, run_underlying hk, sizeOf, typeInfo, hi, hs.len, hroom, hs.cells, Addr.add_lit, hst]
      have hO : Own e i.size (w.setRow b (cur.toList.take (n * i.size) ++ news ++ cur.toList.drop (n * i.size + news.length)).toArray) (some ⟨b, 0, none⟩) (n + m) cap (xs ++ news) := by
        refine ⟨hlen, hroom, hown.max, hone, .inr ⟨b, _, rfl, setRow_heap w b cur _ e _ hb, ?_, ?_⟩⟩
        · simp only [List.size_toArray, List.length_append, List.length_take, List.length_drop, Array.length_toList]
          omega
        · simp only [htk, ← hlen]
          exact List.take_left
      have hR := hO.rd.take (k := n) (c := cap) (by omega) (by omega) (Nat.le_refl _)
      rw [show (xs ++ news).take (n * i.size) = xs by rw [← hown.len]; exact List.take_left] at hR
      exact ⟨some ⟨b, 0, none⟩, cap, _, hr, hO, ⟨rfl, rfl, rfl, by simp, fun k _ hk => setRow_other w b k _ (fun e => hk e.symm)⟩, fun _ h => .inl h, (fun h => by cases h), fun _ => ⟨rfl, rfl⟩, hR⟩
  · have hold : (Builtin.firstCells i.size n (.slice a n cap)).run P w.drew = .ok xs.toArray w.drew := by
      cases a with
      | none =>
        have h0 : n = 0 := by have := hown.le; rcases hown.alt with ⟨_, hc⟩ | ⟨b, cur, hb, _⟩; omega; cases hb
        subst h0
        have hx : xs = [] := List.eq_nil_of_length_eq_zero (by simpa using hown.len)
        subst hx
        exact run_firstCells_none _ _ _ _ _
      | some ad =>
        rcases hown.alt with ⟨hc, _⟩ | ⟨b, cur, hb', hb, hcs, htk⟩
        · cases hc
        · cases hb'
          refine run_firstCells_some (P := P) w.drew i.size n _ n cap xs hown.len fun j v hj => ?_
          rw [Addr.add_lit]
          rcases Nat.eq_zero_or_pos n with rfl | hp
          · have : xs = [] := List.eq_nil_of_length_eq_zero (by simpa using hown.len)
            subst this; simp at hj
          · obtain ⟨b', off', he, _, hc⟩ := hown.rd.cells hp
            cases he
            exact hc j v hj
    have hge := grownCap_ge w (n + m) cap e
    have hcm : grownCap w (n + m) cap e ≤ maxLen := grownCap_le_maxLen w (n + m) cap e h63
    have hr := run_append_grow_src (P := P) w t tx ty e i z ht hi hz a n cap xs hold x m news hs (by omega) (by omega) (growslice_fits (by omega) hbytes)
    have htake : ((xs ++ news).toArray ++ Builtin.zeroCells z.cells (grownCap w (n + m) cap e - (n + m))).toList.take ((n + m) * i.size) = xs ++ news := by
      rw [Array.toList_append]
      simp only [← hlen]
      exact List.take_left
    refine ⟨_, _, _, hr, ?_, ((Only.refl _ w).drew).alloc _, fun k hk => .inr (by have : w.heap.size = k := hk; omega), (fun h => by cases h), fun h => by have := hown.le; omega, hown.rd.keep (((Only.refl (fun _ => False) w).drew).alloc _) (fun _ _ => id)⟩
    have hm := Own.made e i.size w.drew ((xs ++ news).toArray ++ Builtin.zeroCells z.cells (grownCap w (n + m) cap e - (n + m))) (n + m) (grownCap w (n + m) cap e) hge hcm (by
      simp only [Array.size_append, List.size_toArray, size_zeroCells, hzs, hlen, ← Nat.add_mul]
      congr 1
      omega) (by rw [htake]; exact hone)
    rw [htake] at hm
    exact hm
/-- append: N, XS: the length and the cells behind it, in the caller's own spelling; the old slice still reads what it read -/
theorem wpList_append_old {ops : Array Oper} {rest : List Oper} {o : Oper} {fr : Act} {Q : Exit → Act → World → Prop} (N : Nat) (XS : List Value) (hg : o.guard = none) (s x : Operand) (t tx : TypeId)
    (hop : o.op = .call { callee := .builtin .append, args := #[s, x], argTypes := #[t, tx] }) {bytes : Nat} (hT : SliceOf P t e size bytes)
    (hs : fr.eval s = .slice a n cap) (hown : Own e size w a n cap xs) {v : Value} {m : Nat} {news : List Value} (hx : fr.eval x = v) (hsrc : Src P size tx v m news w)
    (hN : n + m = N) (hX : xs ++ news = XS) (h63 : N ≤ maxLen) (hbytes : N * bytes ≤ 140737488355328)
    (hK : ∀ a' cap' w', Grew e size w w' a a' m N cap cap' XS → Rd size w' a n cap xs →
      wpList P ops Q rest (fr.put o.dst (.slice a' N cap')) w') : wpList P ops Q (o :: rest) fr w := by
  subst hN
  subst hX
  obtain ⟨ht, i, z, hi, hz, hsize, hby, hzs⟩ := hT
  refine wpList_plain hg fun K hK' => ?_
  obtain ⟨a', cap', w', hr, h1, h2, h3, h4, h5, h6⟩ := run_append_old (P := P) (ty := o.type) ht hi hz hsize hby hzs hown hsrc h63 hbytes
  unfold Oper.wp execOp
  simp only [hop, resolve, invoke, builtin, Sem.run_bind, Sem.run_pure, Result.andThen_ok, List.map_toArray, List.map_cons, List.map_nil, hs, hx, hr]
  exact hK' _ _ (hK a' cap' w' ⟨h1, h2, h3, h4, h5⟩ h6)
end
end Go.Proofs.Ytacjkbljokjdkaa.heap

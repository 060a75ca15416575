/-
  FnBSLists: what the law's walk needs: append in a statement whose order is open; numbers that came in.
-/
import Derived.Test.YtmadpemagfbmlaaDoorBsLst
import Derived.Test.YtmadpemagfbmlaaDoorBsLaw
namespace Go.Proofs.YtmadpemagfbmlaaDoor.bs
open Go.RowKit Go.Proofs.YtmadpemagfbmlaaDoor.base Go.Proofs.YtmadpemagfbmlaaDoor.heap Go.Proofs.YtmadpemagfbmlaaDoor.bit
set_option linter.unusedVariables false

theorem step_append {P : Program} {e : TypeId} {w : World} {a0 : Option Addr} {n cap : Nat} {xs : List Value} {ops : Array Oper} {o : Oper} {fr : Act} {K : Act → World → Prop} {Q : Exit → Act → World → Prop} {E : Prop} (N : Nat) (XS : List Value) (hg : o.guard = none) (s x : Operand) (t tx : TypeId)
    (hop : o.op = .call { callee := .builtin .append, args := #[s, x], argTypes := #[t, tx] }) {bytes : Nat} (hT : SliceOf P t e 1 bytes)
    (hs : fr.eval s = .slice a0 n cap) (hown : Own e 1 w a0 n cap xs) {v : Value} {m : Nat} {news : List Value} (hx : fr.eval x = v) (hsrc : Src P 1 tx v m news w)
    (hN : n + m = N) (hX : xs ++ news = XS) (h63 : N ≤ maxLen) (hbytes : N * bytes ≤ 140737488355328)
    (hK : ∀ a' cap' w', Grew e 1 w w' a0 a' m N cap cap' XS → K (fr.put o.dst (.slice a' N cap')) w') :
    if Region.wanted o (yielded ops fr.tmps) = true then Oper.wp P o fr w K Q else E := by
  have hw : Region.wanted o (yielded ops fr.tmps) = true := by simp [Region.wanted, hg]
  rw [if_pos hw]
  subst hN
  subst hX
  obtain ⟨ht, i, z, hi, hz, hsize, hby, hzs⟩ := hT
  obtain ⟨a', cap', w', hr, h1, h2, h3, h4, h5⟩ := run_append (P := P) (ty := o.type) ht hi hz hsize hby hzs hown hsrc h63 hbytes
  unfold Oper.wp execOp
  simp only [hop, resolve, invoke, builtin, Sem.run_bind, Sem.run_pure, Result.andThen_ok, List.map_toArray, List.map_cons, List.map_nil, hs, hx, hr]
  exact hK _ _ _ ⟨h1, h2, h3, h4, h5⟩

/-- the first numbers of a row that came in -/
theorem IsRow.first {w : World} {a : Option Addr} {len cap : Nat} {zs : List Int} (h : IsRow .u64 w a len cap zs) (n : Nat) (hn : n ≤ len) : ∃ l, RU w a n cap l := by
  have hle := h.le
  refine ⟨(zs.take n).map Int.toNat, ⟨by rw [U_len]; simp; omega, by omega, ?_, U_one _, fun h0 => ?_, fun e => ?_⟩, by simp; omega⟩
  · rcases h with ⟨_, _, rfl, _⟩ | ⟨x, _, _, hm, _⟩
    · unfold maxLen; omega
    · exact hm
  · obtain ⟨b, off, rfl, hl, hb, hc⟩ := h.cells (by omega)
    refine ⟨b, off, rfl, hb, fun j v hj => ?_⟩
    have hj2 : j < n := by
      have := (List.getElem?_eq_some_iff.1 hj).1
      rw [U_len] at this
      simp at this; omega
    have hz : j < zs.length := by omega
    have hw := wf_u64 (h.wf (by decide) j)
    rw [U_get _ _ (by simp; omega)] at hj
    cases hj
    rw [hc j hz]
    congr 2
    have e : ((zs.take n).map Int.toNat).getD j 0 = (zs.getD j 0).toNat := by simp [List.getD_eq_getElem?_getD, List.getElem?_take, hj2, hz]
    rw [e]; omega
  · rcases h with ⟨_, _, hc, _⟩ | ⟨x, hx, _⟩
    · exact hc
    · rw [hx] at e; cases e

/-- the numbers from i on, of the first k places -/
def Lk (b : List Bool) (i k : Nat) : List Nat := ((ones b).take k).filter fun q => decide (i ≤ q)
theorem Lk.yes {b : List Bool} {i k : Nat} (hk : k < (ones b).length) (h : i ≤ (ones b).getD k 0) : Lk b i (k + 1) = Lk b i k ++ [(ones b).getD k 0] := by
  unfold Lk
  have e : (ones b)[k] = (ones b).getD k 0 := by simp [hk]
  rw [List.take_succ_eq_append_getElem hk, List.filter_append, e, List.filter_cons, decide_eq_true h]; rfl
theorem Lk.no {b : List Bool} {i k : Nat} (hk : k < (ones b).length) (h : ¬ i ≤ (ones b).getD k 0) : Lk b i (k + 1) = Lk b i k := by
  unfold Lk
  have e : (ones b)[k] = (ones b).getD k 0 := by simp [hk]
  rw [List.take_succ_eq_append_getElem hk, List.filter_append, e, List.filter_cons, decide_eq_false h]; simp
theorem Lk.full {b : List Bool} {i k C : Nat} (h : (Lk b i k).length = C) : Many b i C = Lk b i k := by
  have e : (ones b).filter (fun q => decide (i ≤ q)) = Lk b i k ++ ((ones b).drop k).filter (fun q => decide (i ≤ q)) := by
    unfold Lk
    rw [← List.filter_append, List.take_append_drop]
  unfold Many
  rw [e, ← h, List.take_left]
theorem Lk.all {b : List Bool} {i C : Nat} (h : (Lk b i (ones b).length).length ≤ C) : Many b i C = Lk b i (ones b).length := by
  unfold Many
  unfold Lk at *
  rw [List.take_length] at *
  exact List.take_of_length_le h

theorem ru_mk {w : World} {a : Option Addr} {n cap : Nat} {l : List Nat} (h : Own 22 1 w a n cap (U l)) (hl : l.length = n) : RU w a n cap l := ⟨h.rd, hl⟩
/-- a slice that was returned, behind two appends onto a younger or an elder row -/
theorem keep_two {wx w7 w8 : World} {a6 a7 a8 : Option Addr} {N cap6 g n7 c7 c70 n8 m8 m7 c8 : Nat} {LL : List Nat} {X7 X8 : List Value} (hu : RU wx a6 N cap6 LL) (hG7 : Grew 22 1 wx w7 (some ⟨g, 0, none⟩) a7 m7 n7 c70 c7 X7) (hG8 : Grew 22 1 w7 w8 a7 a8 m8 n8 c7 c8 X8)
    (h : ∀ j, At a6 j → j ≠ g ∧ j < wx.heap.size) : RU w8 a6 N cap6 LL := by
  refine RU.keep (RU.keep hu hG7.only (fun j hj e => (h j hj).1 (Eq.symm e))) hG8.only (fun j hj e => ?_)
  have h1 := h j hj
  rcases hG7.fresh j e with h2 | h2
  · exact h1.1 (Eq.symm h2)
  · omega
theorem keep_one {wx w8 : World} {a6 a7 a8 : Option Addr} {N cap6 c7 n8 m8 c8 : Nat} {LL : List Nat} {X8 : List Value} (hu : RU wx a6 N cap6 LL) (hG8 : Grew 22 1 wx w8 a7 a8 m8 n8 c7 c8 X8) (h : ∀ j, At a6 j → ¬ At a7 j) : RU w8 a6 N cap6 LL := RU.keep hu hG8.only h
/-- the call ahead of the row; between them; behind -/
theorem way_one {w4 w6 w7 w8 : World} {o : Obj} {a6 a7 a8 : Option Addr} {N cap6 n7 c7 c70 n8 m8 m7 c8 : Nat} {LL : List Nat} {X7 X8 : List Value} (hu : RU w6 a6 N cap6 LL) (hf : ∀ j, At a6 j → w4.heap.size ≤ j ∧ j < w6.heap.size) (hG7 : Grew 22 1 (w6.alloc o) w7 (some ⟨w6.heap.size, 0, none⟩) a7 m7 n7 c70 c7 X7) (hG8 : Grew 22 1 w7 w8 a7 a8 m8 n8 c7 c8 X8) : RU w8 a6 N cap6 LL :=
  keep_two (hu.keep (S := fun _ => False) ((Only.refl _ w6).alloc o) (fun _ _ => id)) hG7 hG8 (fun j hj => by have := hf j hj; simp; omega)
theorem way_two {w4 w6 w7 w8 : World} {o : Obj} {a6 a7 a8 : Option Addr} {N cap6 g n7 c7 c70 n8 m8 m7 c8 : Nat} {LL : List Nat} {X7 X8 : List Value} (hu : RU w6 a6 N cap6 LL) (hf : ∀ j, At a6 j → w4.heap.size ≤ j ∧ j < w6.heap.size) (hg : g < w4.heap.size) (hG7 : Grew 22 1 w6 w7 (some ⟨g, 0, none⟩) a7 m7 n7 c70 c7 X7) (hG8 : Grew 22 1 w7 w8 a7 a8 m8 n8 c7 c8 X8) : RU w8 a6 N cap6 LL :=
  keep_two hu hG7 hG8 (fun j hj => by have := hf j hj; omega)
theorem way_three {w6 w7 w8 wy : World} {a6 a7 a8 : Option Addr} {N cap6 n7 c7 n8 m8 c8 : Nat} {LL : List Nat} {X7 X8 : List Value} (hu : RU w6 a6 N cap6 LL) (hf : ∀ j, At a6 j → w7.heap.size ≤ j ∧ j < w6.heap.size) (ho7 : Own 22 1 w7 a7 n7 c7 X7) (hG8 : Grew 22 1 w6 w8 a7 a8 m8 n8 c7 c8 X8) : RU w8 a6 N cap6 LL :=
  keep_one hu hG8 (fun j hj h => by have := hf j hj; have := ho7.lt j h; omega)
end Go.Proofs.YtmadpemagfbmlaaDoor.bs

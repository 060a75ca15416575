/-
  STRun of the thin package.
-/
import Derived.Test.YtpccodjmjgfloaaStSt
import Derived.Deep.CutRange
import Derived.Deep.DeepCutAuto
import Derived.Deep.CutBlock
import Derived.Deep.RegionHeld3
namespace Go.Proofs.Ytpccodjmjgfloaa.st
open Go.RowKit Go.Proofs.Ytpccodjmjgfloaa.base Go.Proofs.Ytpccodjmjgfloaa.heap Go.Proofs.Ytpccodjmjgfloaa.rows Go.Proofs.Ytpccodjmjgfloaa.mapi
set_option linter.unusedVariables false

theorem step_append {P : Program} {e : TypeId} {w : World} {a0 : Option Addr} {n cap : Nat} {xs : List Value} {ops : Array Oper} {o : Oper} {fr : Act} {K : Act → World → Prop} {Q : Exit → Act → World → Prop} {E : Prop} (N : Nat) (XS : List Value) (hg : o.guard = none) (s x : Operand) (t tx : TypeId)
    (hop : o.op = .call { callee := .builtin .append, args := #[s, x], argTypes := #[t, tx] }) {bytes : Nat} (hT : SliceOf P t e 1 bytes)
    (hs : fr.eval s = .slice a0 n cap) (hown : Own e 1 w a0 n cap xs) {v : Value} {m : Nat} {news : List Value} (hx : fr.eval x = v) (hsrc : Src P 1 tx v m news w)
    (hN : n + m = N) (hX : xs ++ news = XS) (h63 : N ≤ maxLen) (hbytes : N * bytes ≤ 140737488355328)
    (hK : ∀ a' cap' w', Grew e 1 w w' a0 a' m N cap cap' XS → K (fr.put o.dst (.slice a' N cap')) w') :
    if Region.wanted o (yielded ops fr.tmps) = true then Oper.wp P o fr w K Q else E := by
  have hw : Region.wanted o (yielded ops fr.tmps) = true := by simp [Region.wanted, hg]
  rw [if_pos hw]
  subst hN
  subst hX
  obtain ⟨ht, i, z, hi, hz, hsize, hby, hzs⟩ := hT
  obtain ⟨a', cap', w', hr, h1, h2, h3, h4, h5⟩ := run_append (P := P) (ty := o.type) ht hi hz hsize hby hzs hown hsrc h63 hbytes
  unfold Oper.wp execOp
  simp only [hop, resolve, invoke, builtin, Sem.run_bind, Sem.run_pure, Result.andThen_ok, List.map_toArray, List.map_cons, List.map_nil, hs, hx, hr]
  exact hK _ _ _ ⟨h1, h2, h3, h4, h5⟩

/-- a set behind a step; whether its list is looked at -/
def stepL (l : List Int) (s : St) : List Int := if s.op = 1 then withL l s.d else if s.op = 2 then withoutL l s.d else if s.op = 3 then [] else l
def stepF (f : Bool) (s : St) : Bool := decide (s.op ≠ 3) && (f || (decide (s.op < 3) && decide (0 < s.n)))
def ksAt (first : List Int) (l : List St) (k : Nat) : List Int := (l.take k).foldl stepL (withL [] first)
def flAt (l : List St) (k : Nat) : Bool := (l.take k).foldl stepF true
theorem ksAt_succ (first : List Int) (l : List St) (k : Nat) (s : St) (h : l[k]? = some s) : ksAt first l (k + 1) = stepL (ksAt first l k) s := by
  unfold ksAt; rw [take_snoc l k s h, List.foldl_append]; rfl
theorem flAt_succ (l : List St) (k : Nat) (s : St) (h : l[k]? = some s) : flAt l (k + 1) = stepF (flAt l k) s := by
  unfold flAt; rw [take_snoc l k s h, List.foldl_append]; rfl
theorem stepL_nodup (l : List Int) (s : St) (h : l.Nodup) : (stepL l s).Nodup := by
  unfold stepL
  split
  · exact withL_nodup _ _ h
  · split
    · exact h.filter _
    · split
      · exact List.nodup_nil
      · exact h
theorem stepL_len (l : List Int) (s : St) (h : s.d.length ≤ 20) : (stepL l s).length ≤ l.length + 20 := by
  unfold stepL
  split
  · have := withL_len l s.d; omega
  · split
    · have : (withoutL l s.d).length ≤ l.length := List.length_filter_le _ _; omega
    · split
      · simp
      · omega
theorem ksAt_ok (first : List Int) (l : List St) (hf : first.length ≤ 20) (hl : ∀ s ∈ l, s.d.length ≤ 20) (k : Nat) (hk : k ≤ l.length) : (ksAt first l k).Nodup ∧ (ksAt first l k).length ≤ 20 + 20 * k := by
  induction k with
  | zero =>
    refine ⟨withL_nodup _ _ List.nodup_nil, ?_⟩
    have := withL_len [] first
    show (withL [] first).length ≤ _
    simp at this; omega
  | succ k ih =>
    obtain ⟨h1, h2⟩ := ih (by omega)
    have hs := List.getElem?_eq_getElem (show k < l.length by omega)
    rw [ksAt_succ first l k _ hs]
    exact ⟨stepL_nodup _ _ h1, by have := stepL_len (ksAt first l k) l[k] (hl _ (List.getElem_mem _)); omega⟩

/-- an answer -/
structure Sd where
  len : Nat
  fa : Option Addr
  fn : Nat
  fc : Nat
  all : Bool
  ea : Option Addr
  en : Nat
  ec : Nat
def sdc (s : Sd) : List Value := [.int .i64 (s.len : Int), .slice s.fa s.fn s.fc, .bool s.all, .slice s.ea s.en s.ec]
/-- an answer of a set ks that was asked for d -/
structure Sok (w : World) (s : Sd) (ks d : List Int) (f : Bool) : Prop where
  len : s.len = ks.length
  all : s.all = decide (∀ x ∈ d, x ∈ ks)
  ex : OL 4 bv w s.ea s.en s.ec (d.map fun x => decide (x ∈ ks))
  fl : ∃ F, OL 3 iv w s.fa s.fn s.fc F ∧ (f = true → F.Perm ks)
def Sd.foot (s : Sd) (j : Nat) : Prop := At s.fa j ∨ At s.ea j
theorem Sok.keep {w w' : World} {s : Sd} {ks d : List Int} {f : Bool} {S : Nat → Prop} (h : Sok w s ks d f) (ho : Only S w w') (hn : ∀ j, s.foot j → ¬ S j) : Sok w' s ks d f :=
  ⟨h.len, h.all, h.ex.keep ho (fun j hj => hn j (.inr hj)), by obtain ⟨F, h1, h2⟩ := h.fl; exact ⟨F, h1.keep ho (fun j hj => hn j (.inl hj)), h2⟩⟩
theorem Sok.lt {w : World} {s : Sd} {ks d : List Int} {f : Bool} (h : Sok w s ks d f) : ∀ j, s.foot j → j < w.heap.size := by
  rintro j (hj | hj)
  · obtain ⟨F, h1, _⟩ := h.fl; exact h1.1.lt j hj
  · exact h.ex.1.lt j hj

/-- the loop of STRun -/
structure Inv (w wr : World) (p : Nat) (first : List Int) (l : List St) (k : Nat) (oa : Option Addr) (oc : Nat) (L : List Sd) (o : O) (fo : Option (List Int)) : Prop where
  p : o.p = p
  ok : o.ok wr (ksAt first l k) fo
  flat : ∀ F, fo = some F → F.length ≤ 1000 ∧ (flAt l k = true → F.Perm (ksAt first l k))
  out : Own 35 4 wr oa k oc (L.flatMap sdc)
  len : L.length = k
  said : ∀ i s t, L[i]? = some s → l[i]? = some t → Sok wr s (ksAt first l (i + 1)) t.d (flAt l (i + 1))
  apart : ∀ s ∈ L, ∀ j, s.foot j → ¬ o.foot j ∧ ¬ At oa j
  old : ∀ j, o.foot j ∨ At oa j → w.heap.size ≤ j
  apart2 : ∀ j, At oa j → ¬ o.foot j
  same : Same w wr

theorem Sok.ltL {w : World} {first : List Int} {l : List St} {k : Nat} {L : List Sd} (hl : k ≤ l.length) (hL : L.length = k) (h : ∀ i s t, L[i]? = some s → l[i]? = some t → Sok w s (ksAt first l (i + 1)) t.d (flAt l (i + 1))) : ∀ s ∈ L, ∀ j, s.foot j → j < w.heap.size := by
  intro s hs j hj
  obtain ⟨i, hi⟩ := List.mem_iff_getElem?.1 hs
  have hil := (List.getElem?_eq_some_iff.1 hi).1
  exact (h i s _ hi (List.getElem?_eq_getElem (show i < l.length by omega))).lt j hj

def bx (a : Value) (b : Value) (c : Value) (d : Value) : Array Value := #[a, b, c, d]
def Box (wc : World) (nl : Nat) (ball : Bool) (v : Value) (wx : World) : Prop :=
  ∃ g, v = .pointer (some ⟨g, 0, none⟩) ∧ wc.heap.size ≤ g ∧ wx.heap[g]? = some (.cells #[.int .i64 (nl : Int), .slice none 0 0, .bool ball, .slice none 0 0] 35 (0, 0)) ∧ Same wc wx
theorem box_cells {w' : World} {g : Nat} {a b c d : Value} {t : TypeId} (h : w'.heap[g]? = some (.cells #[a, b, c, d] t (0, 0))) :
    w'.cell? ⟨g, 0, none⟩ = some a ∧ w'.cell? ⟨g, 1, none⟩ = some b ∧ w'.cell? ⟨g, 2, none⟩ = some c ∧ w'.cell? ⟨g, 3, none⟩ = some d ∧ w'.frozen? ⟨g, 0, none⟩ = false ∧ w'.frozen? ⟨g, 1, none⟩ = false ∧ w'.frozen? ⟨g, 2, none⟩ = false ∧ w'.frozen? ⟨g, 3, none⟩ = false :=
  ⟨block_cell h rfl, block_cell h rfl, block_cell h rfl, block_cell h rfl, block_free h, block_free h, block_free h, block_free h⟩

theorem box_set {w : World} {g : Nat} {a b c d a' b' c' d' : Value} {t : TypeId} (h : w.heap[g]? = some (.cells #[a, b, c, d] t (0, 0))) :
    ((((w.setCell ⟨g, 0, none⟩ a').setCell ⟨g, 1, none⟩ b').setCell ⟨g, 2, none⟩ c').setCell ⟨g, 3, none⟩ d').heap[g]? = some (.cells #[a', b', c', d'] t (0, 0)) := by
  have h0 := setCell_heap h 0 a'
  have h1 := setCell_heap h0 1 b'
  have h2 := setCell_heap h1 2 c'
  exact setCell_heap h2 3 d'

/-- what stands beside the set's object in the loop of STRun -/
structure Rest (w wr : World) (first : List Int) (l : List St) (k : Nat) (oa : Option Addr) (oc : Nat) (L : List Sd) (o : O) : Prop where
  out : Own 35 4 wr oa k oc (L.flatMap sdc)
  len : L.length = k
  said : ∀ i s t, L[i]? = some s → l[i]? = some t → Sok wr s (ksAt first l (i + 1)) t.d (flAt l (i + 1))
  apart : ∀ s ∈ L, ∀ j, s.foot j → ¬ o.foot j ∧ ¬ At oa j
  old : ∀ j, o.foot j ∨ At oa j → w.heap.size ≤ j
  apart2 : ∀ j, At oa j → ¬ o.foot j
  same : Same w wr
theorem Inv.rest {w wr : World} {p : Nat} {first : List Int} {l : List St} {k : Nat} {oa : Option Addr} {oc : Nat} {L : List Sd} {o : O} {fo : Option (List Int)} (h : Inv w wr p first l k oa oc L o fo) : Rest w wr first l k oa oc L o :=
  ⟨h.out, h.len, h.said, h.apart, h.old, h.apart2, h.same⟩
theorem Rest.step {w wr w' : World} {first : List Int} {l : List St} {k : Nat} {oa : Option Addr} {oc : Nat} {L : List Sd} {o o' : O} (h : Rest w wr first l k oa oc L o) (hl : k ≤ l.length) (ho : Only o.foot wr w') (hf : ∀ j, o'.foot j → o.foot j ∨ wr.heap.size ≤ j) : Rest w w' first l k oa oc L o' := by
  have hlt := Sok.ltL hl h.len h.said
  refine ⟨h.out.keep ho h.apart2, h.len, fun i s t hs ht => (h.said i s t hs ht).keep ho (fun j hj => (h.apart s (List.mem_of_getElem? hs) j hj).1), fun s hs j hj => ⟨fun hj' => ?_, (h.apart s hs j hj).2⟩, fun j hj => ?_, fun j hj hj' => ?_, Only.trans h.same ho (fun j hj hfj => ?_)⟩
  · rcases hf j hj' with h1 | h1
    · exact (h.apart s hs j hj).1 h1
    · have := hlt s hs j hj; omega
  · rcases hj with hj | hj
    · rcases hf j hj with h1 | h1
      · exact h.old j (.inl h1)
      · have := h.same.size; omega
    · exact h.old j (.inr hj)
  · rcases hf j hj' with h1 | h1
    · exact h.apart2 j hj h1
    · have := h.out.lt j hj; omega
  · have := h.old j (.inl hfj); omega
/-- an answer is put behind the others -/
theorem Rest.push {w wr w' : World} {first : List Int} {l : List St} {k : Nat} {oa : Option Addr} {oc : Nat} {L : List Sd} {o : O} (h : Rest w wr first l k oa oc L o) (hl : k ≤ l.length) {a' : Option Addr} {c' : Nat} {s : Sd} {t : St} (ht : l[k]? = some t)
    (hs : Sok wr s (ksAt first l (k + 1)) t.d (flAt l (k + 1))) (hsf : ∀ j, s.foot j → ¬ o.foot j ∧ ¬ At oa j) (hot : ∀ j, o.foot j → j < wr.heap.size) (hown : Own 35 4 w' a' (k + 1) c' (L.flatMap sdc ++ sdc s)) (ho : Only (At oa) wr w') (hf : ∀ j, At a' j → At oa j ∨ wr.heap.size ≤ j) : Rest w w' first l (k + 1) a' c' (L ++ [s]) o := by
  have hlt := Sok.ltL hl h.len h.said
  have hlt2 := hs.lt
  refine ⟨by rw [List.flatMap_append]; simpa using hown, by rw [List.length_append, h.len]; rfl, fun i u v hu hv => ?_, fun u hu j hj => ?_, fun j hj => ?_, fun j hj hj' => ?_, Only.trans h.same ho (fun j hj hfj => ?_)⟩
  · by_cases hi : i < k
    · rw [List.getElem?_append_left (by rw [h.len]; exact hi)] at hu
      exact (h.said i u v hu hv).keep ho (fun j hj => (h.apart u (List.mem_of_getElem? hu) j hj).2)
    · have hik : i = k := by
        have := (List.getElem?_eq_some_iff.1 hu).1
        rw [List.length_append, h.len] at this
        simp at this; omega
      subst hik
      rw [List.getElem?_append_right (by rw [h.len]; exact Nat.le_refl _), h.len, Nat.sub_self] at hu
      simp at hu
      subst hu
      rw [ht] at hv
      cases hv
      exact hs.keep ho (fun j hj => (hsf j hj).2)
  · rcases List.mem_append.1 hu with hu | hu
    · refine ⟨(h.apart u hu j hj).1, fun hj' => ?_⟩
      rcases hf j hj' with h1 | h1
      · exact (h.apart u hu j hj).2 h1
      · have := hlt u hu j hj; omega
    · simp at hu
      subst hu
      refine ⟨(hsf j hj).1, fun hj' => ?_⟩
      rcases hf j hj' with h1 | h1
      · exact (hsf j hj).2 h1
      · have := hlt2 j hj; omega
  · rcases hj with hj | hj
    · exact h.old j (.inl hj)
    · rcases hf j hj with h1 | h1
      · exact h.old j (.inr h1)
      · have := h.same.size; omega
  · rcases hf j hj with h1 | h1
    · exact h.apart2 j h1 hj'
    · have := hot j hj'; omega
  · have := h.old j (.inr hfj); omega
end Go.Proofs.Ytpccodjmjgfloaa.st

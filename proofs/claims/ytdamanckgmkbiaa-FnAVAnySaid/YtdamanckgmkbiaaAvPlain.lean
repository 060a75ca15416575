/-
  AVL trees: plain.
-/
import Derived.Test.YtdamanckgmkbiaaBase
namespace Go.Proofs.Ytdamanckgmkbiaa.av
set_option linter.unusedVariables false
/-- a tree: its nodes' blocks, balances, keys and numbers -/
inductive Tre
  | nil
  | nd (p : Nat) (b : Int) (l : Tre) (k v : Int) (r : Tre)
namespace Tre
def ht : Tre → Nat
  | nil => 0
  | nd _ _ l _ _ r => max l.ht r.ht + 1
def toL : Tre → List (Int × Int)
  | nil => []
  | nd _ _ l k v r => l.toL ++ (k, v) :: r.toL
def size : Tre → Nat
  | nil => 0
  | nd _ _ l _ _ r => l.size + r.size + 1
/-- the balances are the heights' differences, and small -/
def Bal : Tre → Prop
  | nil => True
  | nd _ b l _ _ r => b = (r.ht : Int) - (l.ht : Int) ∧ -1 ≤ b ∧ b ≤ 1 ∧ l.Bal ∧ r.Bal
/-- the blocks -/
def blk : Tre → Nat → Prop
  | nil, _ => False
  | nd p _ l _ _ r, x => x = p ∨ l.blk x ∨ r.blk x
def ptr : Tre → Option Nat
  | nil => none
  | nd p _ _ _ _ _ => some p
/-- keys ascend -/
def Ord (t : Tre) : Prop := t.toL.Pairwise fun a b => a.1 < b.1
end Tre
open Tre
/-- a node that was gone through: left or right of it the way goes on; the other side -/
structure Fr where
  p : Nat
  b : Int
  right : Bool
  k : Int
  v : Int
  sib : Tre
def Fr.put (f : Fr) (t : Tre) : Tre := if f.right then .nd f.p f.b f.sib f.k f.v t else .nd f.p f.b t f.k f.v f.sib
/-- the whole tree; the nearest node first -/
def plug : List Fr → Tre → Tre
  | [], t => t
  | f :: z, t => plug z (f.put t)
theorem plug_app (z1 z2 : List Fr) (t : Tre) : plug (z1 ++ z2) t = plug z2 (plug z1 t) := by
  induction z1 generalizing t with
  | nil => rfl
  | cons f z ih => exact ih _
/-- a frame whose balance turns as its way's side grows -/
def Fr.heavy (f : Fr) : Fr := { f with b := if f.right then f.b + 1 else f.b - 1 }
theorem put_ht {f : Fr} {t u : Tre} (h : t.ht = u.ht) : (f.put t).ht = (f.put u).ht := by
  obtain ⟨p, b, d, k, v, s⟩ := f
  cases d
  · show max t.ht s.ht + 1 = max u.ht s.ht + 1; rw [h]
  · show max s.ht t.ht + 1 = max s.ht u.ht + 1; rw [h]
theorem put_bal {f : Fr} {t u : Tre} (h : t.ht = u.ht) (hu : u.Bal) (hb : (f.put t).Bal) : (f.put u).Bal := by
  obtain ⟨p, b, d, k, v, s⟩ := f
  cases d
  · obtain ⟨h1, h2, h3, h4, h5⟩ : b = (s.ht : Int) - (t.ht : Int) ∧ -1 ≤ b ∧ b ≤ 1 ∧ t.Bal ∧ s.Bal := hb
    exact ⟨by rw [← h]; exact h1, h2, h3, hu, h5⟩
  · obtain ⟨h1, h2, h3, h4, h5⟩ : b = (t.ht : Int) - (s.ht : Int) ∧ -1 ≤ b ∧ b ≤ 1 ∧ s.Bal ∧ t.Bal := hb
    exact ⟨by rw [← h]; exact h1, h2, h3, h4, hu⟩
theorem put_sub {f : Fr} {t : Tre} (h : (f.put t).Bal) : t.Bal := by
  obtain ⟨p, b, d, k, v, s⟩ := f
  cases d
  · exact h.2.2.2.1
  · exact h.2.2.2.2
theorem plug_sub (z : List Fr) {t : Tre} (h : (plug z t).Bal) : t.Bal := by
  induction z generalizing t with
  | nil => exact h
  | cons f z ih => exact put_sub (ih (t := f.put t) h)
theorem plug_bal (z : List Fr) {t u : Tre} (h : t.ht = u.ht) (hu : u.Bal) (hb : (plug z t).Bal) : (plug z u).Bal := by
  induction z generalizing t u with
  | nil => exact hu
  | cons f z ih => exact ih (put_ht h) (put_bal h hu (plug_sub z (t := f.put t) hb)) hb
/-- the keys ahead of the way, and behind it -/
def lefts : List Fr → List (Int × Int)
  | [] => []
  | f :: z => lefts z ++ (if f.right then f.sib.toL ++ [(f.k, f.v)] else [])
def rights : List Fr → List (Int × Int)
  | [] => []
  | f :: z => (if f.right then [] else (f.k, f.v) :: f.sib.toL) ++ rights z
theorem plug_toL (z : List Fr) (t : Tre) : (plug z t).toL = lefts z ++ t.toL ++ rights z := by
  induction z generalizing t with
  | nil => simp [plug, lefts, rights]
  | cons f z ih =>
    obtain ⟨p, b, d, k, v, s⟩ := f
    show (plug z _).toL = _
    rw [ih]
    cases d <;> simp [Fr.put, toL, lefts, rights]
theorem plug_size (z : List Fr) {t u : Tre} (n : Nat) (h : u.size = t.size + n) : (plug z u).size = (plug z t).size + n := by
  induction z generalizing t u with
  | nil => exact h
  | cons f z ih =>
    refine ih ?_
    obtain ⟨p, b, d, k, v, s⟩ := f
    cases d
    · show u.size + s.size + 1 = t.size + s.size + 1 + n; omega
    · show s.size + u.size + 1 = s.size + t.size + 1 + n; omega
/-- all are heavy on their way's side -/
def heavies (z : List Fr) : List Fr := z.map Fr.heavy
/-- a leaf that comes below nodes that were even: all lean to it, and the whole is higher -/
theorem grow_even (z : List Fr) (q : Nat) (x v : Int) (h0 : ∀ f ∈ z, f.b = 0) (hb : (plug z .nil).Bal) : (plug (heavies z) (.nd q 0 .nil x v .nil)).Bal ∧ (plug (heavies z) (.nd q 0 .nil x v .nil)).ht = (plug z .nil).ht + 1 := by
  have key : ∀ (z : List Fr) (t u : Tre), (∀ f ∈ z, f.b = 0) → (plug z t).Bal → u.Bal → u.ht = t.ht + 1 → (plug (heavies z) u).Bal ∧ (plug (heavies z) u).ht = (plug z t).ht + 1 := by
    intro z
    induction z with
    | nil => intro t u _ hb hu hh; exact ⟨hu, hh⟩
    | cons f z ih =>
      intro t u h0 hb hu hh
      have hf := h0 f (List.mem_cons_self ..)
      have h1 := plug_sub z (t := f.put t) hb
      refine ih (f.put t) (f.heavy.put u) (fun g hg => h0 g (List.mem_cons_of_mem _ hg)) hb ?_ ?_
      · obtain ⟨p, b, d, k, v, s⟩ := f
        have hf' : b = 0 := hf
        subst hf'
        cases d
        · obtain ⟨e1, e2, e3, e4, e5⟩ : (0 : Int) = (s.ht : Int) - (t.ht : Int) ∧ -1 ≤ (0 : Int) ∧ (0 : Int) ≤ 1 ∧ t.Bal ∧ s.Bal := h1
          show (0 : Int) - 1 = (s.ht : Int) - (u.ht : Int) ∧ -1 ≤ (0 : Int) - 1 ∧ (0 : Int) - 1 ≤ 1 ∧ u.Bal ∧ s.Bal
          exact ⟨by omega, by omega, by omega, hu, e5⟩
        · obtain ⟨e1, e2, e3, e4, e5⟩ : (0 : Int) = (t.ht : Int) - (s.ht : Int) ∧ -1 ≤ (0 : Int) ∧ (0 : Int) ≤ 1 ∧ s.Bal ∧ t.Bal := h1
          show (0 : Int) + 1 = (u.ht : Int) - (s.ht : Int) ∧ -1 ≤ (0 : Int) + 1 ∧ (0 : Int) + 1 ≤ 1 ∧ s.Bal ∧ u.Bal
          exact ⟨by omega, by omega, by omega, e4, hu⟩
      · obtain ⟨p, b, d, k, v, s⟩ := f
        have hf' : b = 0 := hf
        subst hf'
        cases d
        · have e1 : (0 : Int) = (s.ht : Int) - (t.ht : Int) := h1.1
          show max u.ht s.ht + 1 = max t.ht s.ht + 1 + 1
          omega
        · have e1 : (0 : Int) = (t.ht : Int) - (s.ht : Int) := h1.1
          show max s.ht u.ht + 1 = max s.ht t.ht + 1 + 1
          omega
  exact key z .nil (.nd q 0 .nil x v .nil) h0 hb ⟨rfl, by decide, by decide, trivial, trivial⟩ rfl
/-- a rotation to the left -/
theorem single_l {p n : Nat} {A B C : Tre} {k v kn vn : Int} (h : (Tre.nd n 1 B kn vn C).Bal) (hA : A.Bal) (hh : ((Tre.nd n 1 B kn vn C).ht : Int) - (A.ht : Int) = 2) :
    (Tre.nd n 0 (.nd p 0 A k v B) kn vn C).Bal ∧ (Tre.nd n 0 (.nd p 0 A k v B) kn vn C).ht = A.ht + 2 := by
  obtain ⟨h1, _, _, hB, hC⟩ : (1 : Int) = (C.ht : Int) - (B.ht : Int) ∧ -1 ≤ (1 : Int) ∧ (1 : Int) ≤ 1 ∧ B.Bal ∧ C.Bal := h
  have h2 : ((max B.ht C.ht + 1 : Nat) : Int) - (A.ht : Int) = 2 := hh
  have e1 : (Tre.nd p 0 A k v B).ht = max A.ht B.ht + 1 := rfl
  refine ⟨⟨?_, by decide, by decide, ⟨by omega, by decide, by decide, hA, hB⟩, hC⟩, ?_⟩
  · rw [e1]; omega
  · show max (max A.ht B.ht + 1) C.ht + 1 = A.ht + 2; omega
theorem single_r {p n : Nat} {A B C : Tre} {k v kn vn : Int} (h : (Tre.nd n (-1) C kn vn B).Bal) (hA : A.Bal) (hh : (A.ht : Int) - ((Tre.nd n (-1) C kn vn B).ht : Int) = -2) :
    (Tre.nd n 0 C kn vn (.nd p 0 B k v A)).Bal ∧ (Tre.nd n 0 C kn vn (.nd p 0 B k v A)).ht = A.ht + 2 := by
  obtain ⟨h1, _, _, hC, hB⟩ : (-1 : Int) = (B.ht : Int) - (C.ht : Int) ∧ -1 ≤ (-1 : Int) ∧ (-1 : Int) ≤ 1 ∧ C.Bal ∧ B.Bal := h
  have h2 : (A.ht : Int) - ((max C.ht B.ht + 1 : Nat) : Int) = -2 := hh
  have e1 : (Tre.nd p 0 B k v A).ht = max B.ht A.ht + 1 := rfl
  refine ⟨⟨?_, by decide, by decide, hC, ⟨by omega, by decide, by decide, hB, hA⟩⟩, ?_⟩
  · rw [e1]; omega
  · show max C.ht (max B.ht A.ht + 1) + 1 = A.ht + 2; omega
/-- what a double rotation leaves of the balances: of the upper one, of the lower one; leaning to the right -/
def up2 (bm : Int) : Int := if bm = 0 then 0 else if bm = 1 then -1 else 0
def lo2 (bm : Int) : Int := if bm = 0 then 0 else if bm = 1 then 0 else 1
theorem double_l {p n q : Nat} {A B1 B2 C : Tre} {k v kn vn km vm bm : Int} (h : (Tre.nd n (-1) (.nd q bm B1 km vm B2) kn vn C).Bal) (hA : A.Bal) (hh : ((Tre.nd n (-1) (.nd q bm B1 km vm B2) kn vn C).ht : Int) - (A.ht : Int) = 2) :
    (Tre.nd q 0 (.nd p (up2 bm) A k v B1) km vm (.nd n (lo2 bm) B2 kn vn C)).Bal ∧ (Tre.nd q 0 (.nd p (up2 bm) A k v B1) km vm (.nd n (lo2 bm) B2 kn vn C)).ht = A.ht + 2 := by
  obtain ⟨h1, _, _, ⟨g1, g2, g3, hB1, hB2⟩, hC⟩ : (-1 : Int) = (C.ht : Int) - ((max B1.ht B2.ht + 1 : Nat) : Int) ∧ -1 ≤ (-1 : Int) ∧ (-1 : Int) ≤ 1 ∧ (bm = (B2.ht : Int) - (B1.ht : Int) ∧ -1 ≤ bm ∧ bm ≤ 1 ∧ B1.Bal ∧ B2.Bal) ∧ C.Bal := h
  have h2 : ((max (max B1.ht B2.ht + 1) C.ht + 1 : Nat) : Int) - (A.ht : Int) = 2 := hh
  have e1 : (Tre.nd p (up2 bm) A k v B1).ht = max A.ht B1.ht + 1 := rfl
  have e2 : (Tre.nd n (lo2 bm) B2 kn vn C).ht = max B2.ht C.ht + 1 := rfl
  have e3 : (Tre.nd q 0 (.nd p (up2 bm) A k v B1) km vm (.nd n (lo2 bm) B2 kn vn C)).ht = max (max A.ht B1.ht + 1) (max B2.ht C.ht + 1) + 1 := rfl
  refine ⟨⟨by rw [e1, e2]; omega, by decide, by decide, ⟨?_, ?_, ?_, hA, hB1⟩, ⟨?_, ?_, ?_, hB2, hC⟩⟩, by rw [e3]; omega⟩
  all_goals
    first | unfold up2 | unfold lo2
    split
    · omega
    · split <;> omega
theorem double_r {p n q : Nat} {A B1 B2 C : Tre} {k v kn vn km vm bm : Int} (h : (Tre.nd n 1 C kn vn (.nd q bm B2 km vm B1)).Bal) (hA : A.Bal) (hh : (A.ht : Int) - ((Tre.nd n 1 C kn vn (.nd q bm B2 km vm B1)).ht : Int) = -2) :
    (Tre.nd q 0 (.nd n (-lo2 (-bm)) C kn vn B2) km vm (.nd p (-up2 (-bm)) B1 k v A)).Bal ∧ (Tre.nd q 0 (.nd n (-lo2 (-bm)) C kn vn B2) km vm (.nd p (-up2 (-bm)) B1 k v A)).ht = A.ht + 2 := by
  obtain ⟨h1, _, _, hC, ⟨g1, g2, g3, hB2, hB1⟩⟩ : (1 : Int) = ((max B2.ht B1.ht + 1 : Nat) : Int) - (C.ht : Int) ∧ -1 ≤ (1 : Int) ∧ (1 : Int) ≤ 1 ∧ C.Bal ∧ (bm = (B1.ht : Int) - (B2.ht : Int) ∧ -1 ≤ bm ∧ bm ≤ 1 ∧ B2.Bal ∧ B1.Bal) := h
  have h2 : (A.ht : Int) - ((max C.ht (max B2.ht B1.ht + 1) + 1 : Nat) : Int) = -2 := hh
  have e1 : (Tre.nd p (-up2 (-bm)) B1 k v A).ht = max B1.ht A.ht + 1 := rfl
  have e2 : (Tre.nd n (-lo2 (-bm)) C kn vn B2).ht = max C.ht B2.ht + 1 := rfl
  have e3 : (Tre.nd q 0 (.nd n (-lo2 (-bm)) C kn vn B2) km vm (.nd p (-up2 (-bm)) B1 k v A)).ht = max (max C.ht B2.ht + 1) (max B1.ht A.ht + 1) + 1 := rfl
  refine ⟨⟨by rw [e1, e2]; omega, by decide, by decide, ⟨?_, ?_, ?_, hC, hB2⟩, ⟨?_, ?_, ?_, hB1, hA⟩⟩, by rw [e3]; omega⟩
  all_goals
    first | unfold up2 | unfold lo2
    split
    · omega
    · split <;> omega
/-- where the way of a key goes -/
def Way (x : Int) (z : List Fr) : Prop := ∀ f ∈ z, if f.right then f.k < x else x < f.k
theorem way_left {x : Int} {z : List Fr} {t : Tre} (h : Way x z) (ho : (plug z t).Ord) : (∀ y ∈ lefts z, y.1 < x) ∧ ∀ y ∈ rights z, x < y.1 := by
  induction z generalizing t with
  | nil => exact ⟨fun y hy => by simp [lefts] at hy, fun y hy => by simp [rights] at hy⟩
  | cons f z ih =>
    have hz := ih (t := f.put t) (fun g hg => h g (List.mem_cons_of_mem _ hg)) ho
    have hf := h f (List.mem_cons_self ..)
    have ho' : ((plug z (f.put t)).toL).Pairwise fun a b => a.1 < b.1 := ho
    rw [plug_toL] at ho'
    have hs := (List.pairwise_append.1 (List.pairwise_append.1 ho').1).2.1
    obtain ⟨p, b, d, k, v, s⟩ := f
    cases d
    · have hx : x < k := hf
      have hs' : (t.toL ++ (k, v) :: s.toL).Pairwise fun a b => a.1 < b.1 := hs
      have h2 := (List.pairwise_append.1 hs').2.1
      refine ⟨fun y hy => hz.1 y (by simpa [lefts] using hy), fun y hy => ?_⟩
      have hy' : y ∈ ((k, v) :: s.toL) ++ rights z := hy
      rcases List.mem_append.1 hy' with hy | hy
      · rcases List.mem_cons.1 hy with rfl | hy
        · exact hx
        · have := (List.pairwise_cons.1 h2).1 y hy
          have e : k < y.1 := this
          omega
      · exact hz.2 y hy
    · have hx : k < x := hf
      have hs' : (s.toL ++ (k, v) :: t.toL).Pairwise fun a b => a.1 < b.1 := hs
      have h2 := (List.pairwise_append.1 hs').2.2
      refine ⟨fun y hy => ?_, fun y hy => hz.2 y (by simpa [rights] using hy)⟩
      have hy' : y ∈ lefts z ++ (s.toL ++ [(k, v)]) := hy
      rcases List.mem_append.1 hy' with hy | hy
      · exact hz.1 y hy
      · rcases List.mem_append.1 hy with hy | hy
        · have := h2 y hy (k, v) (List.mem_cons_self ..)
          have e : y.1 < k := this
          omega
        · rw [List.mem_singleton] at hy
          subst hy
          exact hx
/-- an entry that comes in at the end of its way -/
theorem ord_new {x v : Int} {z : List Fr} {T : List (Int × Int)} (h : Way x z) (ho : (plug z .nil).Ord) (hT : T = lefts z ++ (x, v) :: rights z) :
    (T.Pairwise fun a b => a.1 < b.1) ∧ (∀ y, y ∈ T ↔ y = (x, v) ∨ y ∈ (plug z .nil).toL) ∧ ∀ y ∈ (plug z .nil).toL, y.1 ≠ x := by
  obtain ⟨h1, h2⟩ := way_left h ho
  have ho' : ((plug z .nil).toL).Pairwise fun a b => a.1 < b.1 := ho
  have e : (plug z .nil).toL = lefts z ++ rights z := by rw [plug_toL]; simp [toL]
  rw [e] at ho' ⊢
  obtain ⟨o1, o2, o3⟩ := List.pairwise_append.1 ho'
  subst hT
  refine ⟨List.pairwise_append.2 ⟨o1, List.pairwise_cons.2 ⟨fun y hy => h2 y hy, o2⟩, fun a ha b hb => ?_⟩, fun y => ?_, fun y hy => ?_⟩
  · rcases List.mem_cons.1 hb with rfl | hb
    · exact h1 a ha
    · exact o3 a ha b hb
  · simp only [List.mem_append, List.mem_cons]
    constructor
    · rintro (h | h | h)
      · exact .inr (.inl h)
      · exact .inl h
      · exact .inr (.inr h)
    · rintro (h | h | h)
      · exact .inr (.inl h)
      · exact .inl h
      · exact .inr (.inr h)
  · rcases List.mem_append.1 hy with hy | hy
    · have := h1 y hy; omega
    · have := h2 y hy; omega
/-- an entry whose key is there -/
theorem ord_old {x v u : Int} {z : List Fr} {p p' : Nat} {b b' : Int} {l r : Tre} (ho : (plug z (.nd p b l x u r)).Ord) :
    (plug z (.nd p' b' l x v r)).Ord ∧ (∀ y, y ∈ (plug z (.nd p' b' l x v r)).toL ↔ y = (x, v) ∨ (y.1 ≠ x ∧ y ∈ (plug z (.nd p b l x u r)).toL)) ∧ (x, u) ∈ (plug z (.nd p b l x u r)).toL := by
  have ho' : ((plug z (.nd p b l x u r)).toL).Pairwise fun a b => a.1 < b.1 := ho
  have e1 : ∀ (q : Nat) (c w : Int), (plug z (.nd q c l x w r)).toL = (lefts z ++ l.toL) ++ (x, w) :: (r.toL ++ rights z) := fun q c w => by rw [plug_toL]; simp [toL]
  rw [e1] at ho'
  unfold Tre.Ord
  rw [e1, e1]
  obtain ⟨o1, o2, o3⟩ := List.pairwise_append.1 ho'
  obtain ⟨o4, o5⟩ := List.pairwise_cons.1 o2
  have hl : ∀ y ∈ lefts z ++ l.toL, y.1 < x := fun y hy => o3 y hy (x, u) (List.mem_cons_self ..)
  have hr : ∀ y ∈ r.toL ++ rights z, x < y.1 := fun y hy => o4 y hy
  refine ⟨List.pairwise_append.2 ⟨o1, List.pairwise_cons.2 ⟨fun y hy => hr y hy, o5⟩, fun a ha b hb => ?_⟩, fun y => ?_, by simp⟩
  · rcases List.mem_cons.1 hb with rfl | hb
    · exact hl a ha
    · exact o3 a ha b (List.mem_cons_of_mem _ hb)
  · constructor
    · intro h
      rcases List.mem_append.1 h with h | h
      · exact .inr ⟨by have := hl y h; omega, List.mem_append_left _ h⟩
      · rcases List.mem_cons.1 h with h | h
        · exact .inl h
        · exact .inr ⟨by have := hr y h; omega, List.mem_append_right _ (List.mem_cons_of_mem _ h)⟩
    · rintro (h | ⟨hne, h⟩)
      · rw [h]; simp
      · rcases List.mem_append.1 h with h | h
        · exact List.mem_append_left _ h
        · rcases List.mem_cons.1 h with h | h
          · exact absurd (by rw [h]) hne
          · exact List.mem_append_right _ (List.mem_cons_of_mem _ h)
/-- what lies on the way -/
theorem mem_way {x u : Int} {z : List Fr} {t : Tre} (h : Way x z) (ho : (plug z t).Ord) : (x, u) ∈ (plug z t).toL ↔ (x, u) ∈ t.toL := by
  obtain ⟨h1, h2⟩ := way_left h ho
  rw [plug_toL, List.mem_append, List.mem_append]
  constructor
  · rintro ((h | h) | h)
    · have e : x < x := h1 _ h
      omega
    · exact h
    · have e : x < x := h2 _ h
      omega
  · exact fun h => .inl (.inr h)
theorem mem_node {x u : Int} {z : List Fr} {p : Nat} {b v : Int} {l r : Tre} (ho : (plug z (.nd p b l x v r)).Ord) : (x, u) ∈ (plug z (.nd p b l x v r)).toL ↔ u = v := by
  obtain ⟨_, h2, _⟩ := ord_old (v := v) (p' := p) (b' := b) ho
  rw [h2]
  constructor
  · rintro (h | ⟨h, _⟩)
    · cases h; rfl
    · exact absurd rfl h
  · intro h
    rw [h]
    exact .inl rfl
end Go.Proofs.Ytdamanckgmkbiaa.av

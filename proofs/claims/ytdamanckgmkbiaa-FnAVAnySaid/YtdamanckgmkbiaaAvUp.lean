/-
  An AVL tree's insert: a new leaf hangs; the balances; a rotation: in memory.
-/
import Derived.Test.YtdamanckgmkbiaaAvBeg
namespace Go.Proofs.Ytdamanckgmkbiaa.av
open Go.RowKit Go.Proofs.Ytdamanckgmkbiaa.base Go.Proofs.Ytdamanckgmkbiaa.heap Go.Proofs.Ytdamanckgmkbiaa.rows
open Tre
set_option linter.unusedVariables false
theorem size_len (t : Tre) : t.size = t.toL.length := by
  induction t with
  | nil => rfl
  | nd p b l k v r h1 h2 =>
    show l.size + r.size + 1 = (l.toL ++ (k, v) :: r.toL).length
    rw [h1, h2, List.length_append, List.length_cons]
    omega
theorem plug_b (z : List Fr) {t : Tre} (h : (plug z t).Bal) : ∀ f ∈ z, -1 ≤ f.b ∧ f.b ≤ 1 := by
  induction z generalizing t with
  | nil => intro f hf; cases hf
  | cons f z ih =>
    intro f' hf
    rcases List.mem_cons.1 hf with rfl | hf
    · have h1 : (f'.put t).Bal := plug_sub z h
      obtain ⟨p, b, d, k, v, s⟩ := f'
      cases d
      · exact ⟨h1.2.1, h1.2.2.1⟩
      · exact ⟨h1.2.1, h1.2.2.1⟩
    · exact ih (t := f.put t) h f' hf
theorem lefts_heavy (z : List Fr) : lefts (heavies z) = lefts z ∧ rights (heavies z) = rights z := by
  induction z with
  | nil => exact ⟨rfl, rfl⟩
  | cons f z ih =>
    obtain ⟨p, b, d, k, v, s⟩ := f
    have e1 : heavies (⟨p, b, d, k, v, s⟩ :: z) = (Fr.heavy ⟨p, b, d, k, v, s⟩) :: heavies z := rfl
    rw [e1]
    cases d
    · exact ⟨by show lefts (heavies z) ++ [] = _; rw [ih.1]; rfl, by show (_ :: _) ++ rights (heavies z) = _; rw [ih.2]; rfl⟩
    · exact ⟨by show lefts (heavies z) ++ _ = _; rw [ih.1]; rfl, by show [] ++ rights (heavies z) = _; rw [ih.2]; rfl⟩
theorem heavies_app (a b : List Fr) : heavies (a ++ b) = heavies a ++ heavies b := List.map_append
section
variable {B p0 g dm : Nat} {w w' : World}
theorem zm_sub : ∀ {a b : List Fr} {t : Tre}, ZM B p0 g dm w (a ++ b) t.ptr → InM w t → Fit B p0 g dm (a ++ b) t → InM w (plug a t) ∧ Fit B p0 g dm b (plug a t)
  | [], b, t, _, ht, hf => ⟨ht, hf⟩
  | f :: a, b, t, h, ht, hf => by
    obtain ⟨h1, h2, h3, h4, h5, h6⟩ := h
    have e : (f.put t).ptr = some f.p := put_ptr f t
    have n1 : ¬ t.blk f.p := fun hx => by
      rcases hf _ hx with h | ⟨_, h⟩
      · exact not_kept h4 h
      · exact h f (List.mem_cons_self ..) rfl
    have n2 : ¬ f.sib.blk f.p := fun hx => not_kept h4 (h3 _ hx)
    refine zm_sub (a := a) (t := f.put t) (by rw [e]; exact h6) (put_inm h1 ht h2 n1 n2) (fun x hx => ?_)
    rcases put_blk.1 hx with rfl | hx | hx
    · exact .inr ⟨h4, h5⟩
    · rcases hf x hx with h | ⟨h, h'⟩
      · exact .inl h
      · exact .inr ⟨h, fun f' hf' => h' f' (List.mem_cons_of_mem _ hf')⟩
    · exact .inl (h3 x hx)
theorem tip_mine : ∀ {a b : List Fr} {q : Nat}, ZM B p0 g dm w (a ++ b) (some q) → Mine B p0 q → (∀ f ∈ a ++ b, f.p ≠ q) → ∃ m, tip a (some q) = some m ∧ Mine B p0 m ∧ ∀ f ∈ b, f.p ≠ m
  | [], b, q, _, hq, hn => ⟨q, rfl, hq, hn⟩
  | f :: a, b, q, h, _, _ => tip_mine (a := a) h.2.2.2.2.2 h.2.2.2.1 h.2.2.2.2.1
/-- a node with the new child -/
theorem ZM.hang {f : Fr} {z : List Fr} {c : Option Nat} (h : ZM B p0 g dm w (f :: z) c) (c' : Option Nat) : ZM B p0 g dm (w.setCell ⟨f.p, if f.right then 2 else 1, none⟩ (.pointer (ad c'))) (f :: z) c' := by
  obtain ⟨h1, h2, h3, h4, h5, h6⟩ := h
  have hO : Only (fun y => y = f.p) w (w.setCell ⟨f.p, if f.right then 2 else 1, none⟩ (.pointer (ad c'))) := only2 (Only.refl _ w) rfl
  have hk : ∀ y, y = f.p → ¬ Kept B p0 g dm y := fun y hy => hy ▸ not_kept h4
  refine ⟨?_, h2.keep hO (fun y hy e => hk y e (h3 y hy)), h3, h4, h5, h6.keep hO hk (fun k hk e => h5 k hk e)⟩
  obtain ⟨p, b, d, k, v, s⟩ := f
  cases d
  · exact Nd.set0 h1 _
  · exact Nd.set1 h1 _
end
/-- behind the descent: the new leaf hangs, the balances are being set -/
structure Up (g dm p0 : Nat) (x u : Int) (T : Tre) (w3 wr : World) (F : List Fr) (q : Nat) : Prop where
  zm : ZM w3.heap.size p0 g dm wr F (some q)
  nq : Nd wr q 0 none none x u
  mq : Mine w3.heap.size p0 q
  ne : ∀ f ∈ F, f.p ≠ q
  ob : Ob wr g (at0 p0) (T.size + 1) 0 none none
  dy : Dm wr dm (at0 p0)
  on : Only (fun y => Mine w3.heap.size p0 y ∨ y = g) w3 wr
section
variable {g dm p0 q : Nat} {x u : Int} {T : Tre} {w w3 wr wB : World}
theorem Up.still {F : List Fr} (h : Up g dm p0 x u T w3 wr F q) (hs : Same wr wB) : Up g dm p0 x u T w3 wB F q :=
  ⟨h.zm.keep hs (fun _ f => f.elim) (fun _ _ f => f), h.nq.still hs, h.mq, h.ne, h.ob.still hs, heap_still hs h.dy, h.on.trans hs (fun _ _ f => f.elim)⟩
theorem En.hang {f : Fr} {z : List Fr} (h : En g dm p0 x T w3 wr (f :: z)) (hB : Beg g dm p0 T w w3) (hN : Nd wB wr.heap.size 0 none none x u) (hS : Same (wr.setCell ⟨g, 1, none⟩ (.int .u64 ((T.size + 1 : Nat) : Int))) wB) :
    Up g dm p0 x u T w3 ((wB.setCell ⟨f.p, if f.right then 2 else 1, none⟩ (.pointer (at0 wr.heap.size))).setCell ⟨g, 0, none⟩ (.pointer (at0 p0))) (f :: z) wr.heap.size := by
  have hs3 : w3.heap.size ≤ wr.heap.size := h.only.size
  have hlt := h.zm.lt
  have hmf := h.zm.mine f (List.mem_cons_self ..)
  have hgf : g ≠ f.p := fun e => hB.mine.1 (e ▸ hmf)
  have hdf : dm ≠ f.p := fun e => hB.mine.2 (e ▸ hmf)
  have hgd : g ≠ dm := by have := hB.gl; have := hB.ds; omega
  have hgq : g < wr.heap.size := by have := hB.gl; have := hB.ds; have := hB.dl; omega
  have hfq : f.p < wr.heap.size := hlt f (List.mem_cons_self ..)
  have hkg : ∀ y, y = g → ¬ Kept w3.heap.size p0 g dm y := fun y hy hk => hk.2.2.1 hy
  have hng : ∀ k ∈ f :: z, ¬ k.p = g := fun k hk e => hB.mine.1 (e ▸ h.zm.mine k hk)
  have o1 : Only (fun y => y = g) wr wB := (only2 (Only.refl (fun y => y = g) wr) rfl).trans hS (fun _ _ f => f.elim)
  have z1 : ZM w3.heap.size p0 g dm wB (f :: z) none := h.zm.keep o1 hkg hng
  have z2 := z1.hang (some wr.heap.size)
  have o2 : Only (fun y => y = g) (wB.setCell ⟨f.p, if f.right then 2 else 1, none⟩ (.pointer (at0 wr.heap.size))) ((wB.setCell ⟨f.p, if f.right then 2 else 1, none⟩ (.pointer (at0 wr.heap.size))).setCell ⟨g, 0, none⟩ (.pointer (at0 p0))) := only2 (Only.refl _ _) rfl
  have hob3 : Ob wr g (at0 p0) T.size 0 none none := hB.ob.keep h.only hB.mine.1
  have hdy3 : Dm wr dm (at0 p0) := h.only.obj hB.dy hB.mine.2
  have hob : Ob wB g (at0 p0) (T.size + 1) 0 none none := (hob3.setn (T.size + 1)).still hS
  refine ⟨z2.keep o2 hkg hng, (hN.off (by omega)).off (by omega), .inr hs3, fun k hk => Nat.ne_of_lt (hlt k hk), (hob.off hgf).setr (at0 p0), ?_, ?_⟩
  · have e1 : Dm wB dm (at0 p0) := o1.obj hdy3 (fun e => hgd e.symm)
    have e2 : Dm (wB.setCell ⟨f.p, if f.right then 2 else 1, none⟩ (.pointer (at0 wr.heap.size))) dm (at0 p0) := (only2 (Only.refl (fun y => y = f.p) wB) rfl).obj e1 (fun e => hdf e)
    exact o2.obj e2 (fun e => hgd e.symm)
  · refine ((h.only.mono (fun _ _ e => .inl e)).trans o1 (fun y _ e => .inr e)).trans ?_ (fun _ _ e => e)
    exact only2 (only2 (Only.refl _ wB) (.inl hmf)) (.inr rfl)
theorem Up.setb {U R : List Fr} {f : Fr} (h : Up g dm p0 x u T w3 wr (U ++ f :: R) q) (hB : Beg g dm p0 T w w3) : Up g dm p0 x u T w3 (wr.setCell ⟨f.p, 0, none⟩ (.int .i8 f.heavy.b)) (U ++ f.heavy :: R) q := by
  obtain ⟨z1, z2, z3⟩ := ZM.app.1 h.zm
  obtain ⟨h1, h2, h3, h4, h5, h6⟩ := z2
  have hO : Only (fun y => y = f.p) wr (wr.setCell ⟨f.p, 0, none⟩ (.int .i8 f.heavy.b)) := only2 (Only.refl _ wr) rfl
  have hk : ∀ y, y = f.p → ¬ Kept w3.heap.size p0 g dm y := fun y hy => hy ▸ not_kept h4
  have hq : f.p ≠ q := h.ne f (List.mem_append_right _ (List.mem_cons_self ..))
  have hmem : ∀ k ∈ U ++ f.heavy :: R, k = f.heavy ∨ k ∈ U ++ f :: R := fun k hk => by
    rcases List.mem_append.1 hk with hk | hk
    · exact .inr (List.mem_append_left _ hk)
    · rcases List.mem_cons.1 hk with hk | hk
      · exact .inl hk
      · exact .inr (List.mem_append_right _ (List.mem_cons_of_mem _ hk))
  refine ⟨ZM.app.2 ⟨z1.keep hO hk (fun k hk e => z3 k hk f (List.mem_cons_self ..) e.symm), ⟨?_, h2.keep hO (fun y hy e => hk y e (h3 y hy)), h3, h4, h5, h6.keep hO hk (fun k hk e => h5 k hk e)⟩, fun k hk j hj => ?_⟩, h.nq.off (fun e => hq e.symm), h.mq, fun k hk => ?_, h.ob.off (fun e => hB.mine.1 (e ▸ h4)), hO.obj h.dy (fun e => hB.mine.2 (e ▸ h4)), h.on.trans hO (fun y _ e => .inl (e ▸ h4))⟩
  · obtain ⟨p, b, d, k, v, s⟩ := f
    cases d
    · exact Nd.setb h1 _
    · exact Nd.setb h1 _
  · rcases List.mem_cons.1 hj with rfl | hj
    · exact z3 k hk f (List.mem_cons_self ..)
    · exact z3 k hk j (List.mem_cons_of_mem _ hj)
  · rcases hmem k hk with rfl | hk
    · exact hq
    · exact h.ne k hk
end
end Go.Proofs.Ytdamanckgmkbiaa.av

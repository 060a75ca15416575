/-
  An AVL tree's insert: what is known when the way down begins.
-/
import Derived.Test.YtdamanckgmkbiaaAvIns
namespace Go.Proofs.Ytdamanckgmkbiaa.av
open Go.RowKit Go.Proofs.Ytdamanckgmkbiaa.base Go.Proofs.Ytdamanckgmkbiaa.heap Go.Proofs.Ytdamanckgmkbiaa.rows
set_option linter.unusedVariables false
/-- the dummy -/
def Dm (w : World) (dm : Nat) (q : Option Addr) : Prop := w.heap[dm]? = some (.cells #[.int .i8 0, .pointer none, .pointer q, .nilIface] 80 (0, 0))
theorem dn_start {w w3 : World} {g p0 dm : Nat} {b k v x : Int} {l r : Tre} (hm : InM w (.nd p0 b l k v r)) (hg : ¬ (Tre.nd p0 b l k v r).blk g) (hb : (Tre.nd p0 b l k v r).Bal) (ho : Only (fun y => y = g) w w3) (hd : w.heap.size ≤ dm) (hd' : dm < w3.heap.size) :
    Dn g dm p0 x (.nd p0 b l k v r) w3 w3 [] p0 b l k v r p0 dm := by
  have hm3 : InM w3 (.nd p0 b l k v r) := hm.keep ho (fun y hy e => hg (e ▸ hy))
  obtain ⟨h1, h2, h3, h4, h5⟩ := hm3
  have lt := InM.lt hm
  have hs := ho.size
  refine ⟨trivial, h1, h2, h3, fun y hy => ?_, fun y hy => ?_, .inl rfl, fun f hf => by (cases hf), fun f hf => by (cases hf), hb, rfl, rfl, rfl, rfl, .inl ⟨rfl, rfl, .inr rfl⟩, Only.refl _ _⟩
  · have := lt y (.inr (.inl hy))
    exact ⟨by omega, fun e => h4 (e ▸ hy), fun e => hg (e ▸ .inr (.inl hy)), by omega⟩
  · have := lt y (.inr (.inr hy))
    exact ⟨by omega, fun e => h5 (e ▸ hy), fun e => hg (e ▸ .inr (.inr hy)), by omega⟩
/-- said of insert -/
def InsP (x u : Int) (g p0 : Nat) (T : Tre) (w : World) (e : Ending) (w' : World) : Prop :=
  e = .returned (found x (T.look x)) ∧ ∃ T' d c0 c1, Ob w' g (ad T'.ptr) T'.size d c0 c1 ∧ InM w' T' ∧ ¬ T'.blk g ∧ T'.Bal ∧ T'.Ord ∧ (∀ y, y ∈ T'.toL ↔ y = (x, u) ∨ (y.1 ≠ x ∧ y ∈ T.toL)) ∧ Only (fun y => y = g ∨ y = p0) w w' ∧ ∀ y, T'.ptr = some y → y = p0 ∨ w.heap.size ≤ y
/-- what is known when the descent begins -/
structure Beg (g dm p0 : Nat) (T : Tre) (w w3 : World) : Prop where
  dy : Dm w3 dm (at0 p0)
  ob : Ob w3 g (at0 p0) T.size 0 none none
  on : Only (fun y => y = g) w w3
  ds : w.heap.size ≤ dm
  dl : dm < w3.heap.size
  gl : g < w.heap.size
  gp : g ≠ p0
  pl : p0 < w.heap.size
  ord : T.Ord
theorem Beg.mine {g dm p0 : Nat} {T : Tre} {w w3 : World} (h : Beg g dm p0 T w w3) : ¬ Mine w3.heap.size p0 g ∧ ¬ Mine w3.heap.size p0 dm := by
  have := h.gl
  have := h.pl
  have := h.ds
  have := h.dl
  have := h.gp
  constructor <;> rintro (e | e) <;> omega
theorem Beg.only {g dm p0 : Nat} {T : Tre} {w w3 w' : World} (h : Beg g dm p0 T w w3) (ho : Only (fun y => Mine w3.heap.size p0 y ∨ y = g) w3 w') : Only (fun y => y = g ∨ y = p0) w w' := by
  have h1 := h.ds
  have h2 := h.dl
  refine (h.on.mono (fun _ _ e => .inl e)).trans ho (fun y hy e => ?_)
  rcases e with (e | e) | e
  · exact .inr e
  · omega
  · exact .inl e
theorem Dn.still {g dm p0 p sp hp : Nat} {x b k v : Int} {T l r : Tre} {w3 wr wx : World} {z : List Fr} (h : Dn g dm p0 x T w3 wr z p b l k v r sp hp) (hs : Same wr wx) : Dn g dm p0 x T w3 wx z p b l k v r sp hp :=
  ⟨h.zm.keep hs (fun _ f => f.elim) (fun _ _ f => f), h.nd.still hs, h.il.keep hs (fun _ _ f => f), h.ir.keep hs (fun _ _ f => f), h.ol, h.or, h.mp, h.ne, h.way, h.bal, h.toL, h.sz, h.top, h.lk, h.sel, h.only.trans hs (fun _ _ f => f.elim)⟩
/-- said of node.copy -/
def CpP (b : Int) (c0 c1 : Option Addr) (k v : Int) (w : World) (e : Ending) (w' : World) : Prop := e = .returned (.pointer (at0 w.heap.size)) ∧ Nd w' w.heap.size b c0 c1 k v ∧ Same w w' ∧ w'.heap.size = w.heap.size + 1
theorem normN (w : World) : Calls Try.prog 39 #[.int .i64 (-1)] w fun e w' => e = .returned (.int .i64 1) ∧ w = w' := by
  have := normC (-1) w
  rw [if_pos (by decide)] at this
  exact this
theorem normZ (w : World) : Calls Try.prog 39 #[.int .i64 0] w fun e w' => e = .returned (.int .i64 (-1)) ∧ w = w' := by
  have := normC 0 w
  rw [if_neg (by decide), if_neg (by decide)] at this
  exact this
theorem normP (w : World) : Calls Try.prog 39 #[.int .i64 1] w fun e w' => e = .returned (.int .i64 0) ∧ w = w' := by
  have := normC 1 w
  rw [if_neg (by decide), if_pos (by decide)] at this
  exact this
theorem Dn.same {g dm p0 p sp hp : Nat} {x b v : Int} (u : Int) {T l r : Tre} {w w3 wr : World} {z : List Fr} (h : Dn g dm p0 x T w3 wr z p b l x v r sp hp) (hB : Beg g dm p0 T w w3) :
    InsP x u g p0 T w (.returned (ent x v)) (wr.setCell ⟨p, 3, none⟩ (ent x u)) := by
  have hO : Only (fun y => y = p) wr (wr.setCell ⟨p, 3, none⟩ (ent x u)) := only2 (Only.refl _ wr) rfl
  have hk : ∀ y, y = p → ¬ Kept w3.heap.size p0 g dm y := fun y hy => hy ▸ not_kept h.mp
  have hlk : T.look x = some v := by
    rw [← h.lk]
    exact (if_neg (by omega)).trans (if_neg (by omega))
  have hn1 : ¬ l.blk p := fun e => not_kept h.mp (h.ol p e)
  have hn2 : ¬ r.blk p := fun e => not_kept h.mp (h.or p e)
  have hi : InM (wr.setCell ⟨p, 3, none⟩ (ent x u)) (.nd p b l x u r) := ⟨h.nd.sete u, h.il.keep hO (fun y hy e => hk y e (h.ol y hy)), h.ir.keep hO (fun y hy e => hk y e (h.or y hy)), hn1, hn2⟩
  obtain ⟨hp1, hp2⟩ := zm_plug (t := .nd p b l x u r) (h.zm.keep hO hk (fun f hf e => h.ne f hf e)) hi (fun y hy => by
    rcases hy with rfl | hy | hy
    · exact .inr ⟨h.mp, h.ne⟩
    · exact .inl (h.ol y hy)
    · exact .inl (h.or y hy))
  have hptr : (plug z (.nd p b l x u r)).ptr = some p0 := (plug_ptr z _).trans h.top
  have ho : (plug z (.nd p b l x v r)).Ord := by
    unfold Tre.Ord
    rw [h.toL]
    exact hB.ord
  obtain ⟨o1, o2, o3⟩ := ord_old (v := u) (p' := p) (b' := b) ho
  have hsz : (plug z (.nd p b l x u r)).size = T.size := (plug_size z (t := .nd p b l x v r) (u := .nd p b l x u r) 0 rfl).trans h.sz
  have hgp : g ≠ p := fun e => hB.mine.1 (e ▸ h.mp)
  refine ⟨by rw [hlk]; rfl, plug z (.nd p b l x u r), 0, none, none, ?_, hp1, fun e => (hp2 g e).elim (fun e => e.2.2.1 rfl) hB.mine.1, plug_bal z (t := .nd p b l x v r) rfl (by have h2 := plug_sub _ h.bal; exact h2) h.bal, o1, fun y => by rw [o2, h.toL], hB.only ((h.only.mono (fun _ _ e => .inl e)).trans hO (fun y _ e => .inl (e ▸ h.mp))), fun y hy => .inl ?_⟩
  · rw [hsz, hptr]
    exact (hB.ob.keep h.only hB.mine.1).off hgp
  · rw [hptr] at hy
    exact (Option.some.inj hy).symm
end Go.Proofs.Ytdamanckgmkbiaa.av

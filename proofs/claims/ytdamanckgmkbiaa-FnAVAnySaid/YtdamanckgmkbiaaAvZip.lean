/-
  An AVL tree whose way down is being rewritten: in memory.
-/
import Derived.Test.YtdamanckgmkbiaaAvGet
import Derived.Test.YtdamanckgmkbiaaAvAdj
namespace Go.Proofs.Ytdamanckgmkbiaa.av
open Go.RowKit Go.Proofs.Ytdamanckgmkbiaa.base Go.Proofs.Ytdamanckgmkbiaa.heap Go.Proofs.Ytdamanckgmkbiaa.rows
open Tre
set_option linter.unusedVariables false
/-- the blocks that are not written -/
def Kept (B p0 g dm x : Nat) : Prop := x < B ∧ x ≠ p0 ∧ x ≠ g ∧ x ≠ dm
def Mine (B p0 x : Nat) : Prop := x = p0 ∨ B ≤ x
def Old (B p0 g dm : Nat) (t : Tre) : Prop := ∀ x, t.blk x → Kept B p0 g dm x
theorem not_kept {B p0 g dm x : Nat} (h : Mine B p0 x) : ¬ Kept B p0 g dm x := fun hk => by
  obtain ⟨h1, h2, _⟩ := hk
  rcases h with h | h <;> omega
def FrM (w : World) (f : Fr) (hole : Option Nat) : Prop := Nd w f.p f.b (ad (if f.right then f.sib.ptr else hole)) (ad (if f.right then hole else f.sib.ptr)) f.k f.v
def ZM (B p0 g dm : Nat) (w : World) : List Fr → Option Nat → Prop
  | [], _ => True
  | f :: z, hole => FrM w f hole ∧ InM w f.sib ∧ Old B p0 g dm f.sib ∧ Mine B p0 f.p ∧ (∀ h ∈ z, h.p ≠ f.p) ∧ ZM B p0 g dm w z (some f.p)
/-- the topmost block -/
def tip : List Fr → Option Nat → Option Nat
  | [], c => c
  | f :: z, _ => tip z (some f.p)
theorem put_ptr (f : Fr) (t : Tre) : (f.put t).ptr = some f.p := by
  obtain ⟨p, b, d, k, v, s⟩ := f
  cases d <;> rfl
theorem plug_ptr (z : List Fr) (t : Tre) : (plug z t).ptr = tip z t.ptr := by
  induction z generalizing t with
  | nil => rfl
  | cons f z ih =>
    show (plug z (f.put t)).ptr = tip z (some f.p)
    rw [ih, put_ptr]
theorem tip_app (a b : List Fr) (c : Option Nat) : tip (a ++ b) c = tip b (tip a c) := by
  induction a generalizing c with
  | nil => rfl
  | cons f a ih => exact ih _
theorem tip_none {z : List Fr} {c d : Option Nat} (h : z ≠ []) : tip z c = tip z d := by
  cases z with
  | nil => exact absurd rfl h
  | cons f z => rfl
section
variable {B p0 g dm : Nat} {w w' : World}
theorem ZM.keep {S : Nat → Prop} (ho : Only S w w') (hS : ∀ x, S x → ¬ Kept B p0 g dm x) : ∀ {z : List Fr} {c : Option Nat}, ZM B p0 g dm w z c → (∀ f ∈ z, ¬ S f.p) → ZM B p0 g dm w' z c
  | [], _, _, _ => trivial
  | f :: z, c, h, hn => by
    obtain ⟨h1, h2, h3, h4, h5, h6⟩ := h
    exact ⟨Nd.keep h1 ho (hn f (List.mem_cons_self ..)), h2.keep ho (fun x hx hs => hS x hs (h3 x hx)), h3, h4, h5, ZM.keep ho hS h6 (fun f hf => hn f (List.mem_cons_of_mem _ hf))⟩
theorem ZM.app : ∀ {a b : List Fr} {c : Option Nat}, ZM B p0 g dm w (a ++ b) c ↔ ZM B p0 g dm w a c ∧ ZM B p0 g dm w b (tip a c) ∧ ∀ f ∈ a, ∀ h ∈ b, h.p ≠ f.p
  | [], b, c => by
    constructor
    · exact fun h => ⟨trivial, h, fun f hf => by cases hf⟩
    · exact fun h => h.2.1
  | f :: a, b, c => by
    have ih := @ZM.app a b (some f.p)
    constructor
    · rintro ⟨h1, h2, h3, h4, h5, h6⟩
      obtain ⟨i1, i2, i3⟩ := ih.1 h6
      refine ⟨⟨h1, h2, h3, h4, fun h hh => h5 h (List.mem_append_left _ hh), i1⟩, i2, fun f' hf' h hh => ?_⟩
      rcases List.mem_cons.1 hf' with rfl | hf'
      · exact h5 h (List.mem_append_right _ hh)
      · exact i3 f' hf' h hh
    · rintro ⟨⟨h1, h2, h3, h4, h5, h6⟩, i2, i3⟩
      refine ⟨h1, h2, h3, h4, fun h hh => ?_, ih.2 ⟨h6, i2, fun f' hf' => i3 f' (List.mem_cons_of_mem _ hf')⟩⟩
      rcases List.mem_append.1 hh with hh | hh
      · exact h5 h hh
      · exact i3 f (List.mem_cons_self ..) h hh
theorem ZM.mine : ∀ {z : List Fr} {c : Option Nat}, ZM B p0 g dm w z c → ∀ f ∈ z, Mine B p0 f.p
  | [], _, _, f, hf => by cases hf
  | f :: z, c, h, f', hf => by
    rcases List.mem_cons.1 hf with rfl | hf
    · exact h.2.2.2.1
    · exact ZM.mine h.2.2.2.2.2 f' hf
/-- a subtree that may hang at the way's end -/
def Fit (B p0 g dm : Nat) (z : List Fr) (t : Tre) : Prop := ∀ x, t.blk x → Kept B p0 g dm x ∨ (Mine B p0 x ∧ ∀ f ∈ z, f.p ≠ x)
theorem Old.fit {t : Tre} (h : Old B p0 g dm t) (z : List Fr) : Fit B p0 g dm z t := fun x hx => .inl (h x hx)
theorem put_blk {f : Fr} {t : Tre} {x : Nat} : (f.put t).blk x ↔ x = f.p ∨ t.blk x ∨ f.sib.blk x := by
  obtain ⟨p, b, d, k, v, s⟩ := f
  cases d
  · exact Iff.rfl
  · show x = p ∨ s.blk x ∨ t.blk x ↔ _
    exact ⟨fun h => h.elim .inl (fun h => .inr (h.elim .inr .inl)), fun h => h.elim .inl (fun h => .inr (h.elim .inr .inl))⟩
theorem put_inm {f : Fr} {t : Tre} (hf : FrM w f t.ptr) (ht : InM w t) (hs : InM w f.sib) (h1 : ¬ t.blk f.p) (h2 : ¬ f.sib.blk f.p) : InM w (f.put t) := by
  obtain ⟨p, b, d, k, v, s⟩ := f
  cases d
  · exact ⟨hf, ht, hs, h1, h2⟩
  · exact ⟨hf, hs, ht, h2, h1⟩
theorem zm_plug : ∀ {z : List Fr} {t : Tre}, ZM B p0 g dm w z t.ptr → InM w t → Fit B p0 g dm z t → InM w (plug z t) ∧ ∀ x, (plug z t).blk x → Kept B p0 g dm x ∨ Mine B p0 x
  | [], t, _, ht, hf => ⟨ht, fun x hx => (hf x hx).elim .inl (fun h => .inr h.1)⟩
  | f :: z, t, h, ht, hf => by
    obtain ⟨h1, h2, h3, h4, h5, h6⟩ := h
    have e : (f.put t).ptr = some f.p := put_ptr f t
    have n1 : ¬ t.blk f.p := fun hx => by
      rcases hf _ hx with h | ⟨_, h⟩
      · exact not_kept h4 h
      · exact h f (List.mem_cons_self ..) rfl
    have n2 : ¬ f.sib.blk f.p := fun hx => not_kept h4 (h3 _ hx)
    refine zm_plug (z := z) (t := f.put t) (by rw [e]; exact h6) (put_inm h1 ht h2 n1 n2) (fun x hx => ?_)
    rcases put_blk.1 hx with rfl | hx | hx
    · exact .inr ⟨h4, h5⟩
    · rcases hf x hx with h | ⟨h, h'⟩
      · exact .inl h
      · exact .inr ⟨h, fun f' hf' => h' f' (List.mem_cons_of_mem _ hf')⟩
    · exact .inl (h3 x hx)
end
/-- the helper: the parent, or the dummy -/
def hd (dm : Nat) : List Fr → Nat
  | [] => dm
  | f :: _ => f.p
/-- the nearest node whose balance isn't 0 (or the root), while the way is gone down -/
def Sel (dm : Nat) (z : List Fr) (p : Nat) (b : Int) (sp hp : Nat) : Prop := (sp = p ∧ hp = hd dm z ∧ (b ≠ 0 ∨ z = [])) ∨ ∃ Z2 fs Z1, z = Z2 ++ fs :: Z1 ∧ sp = fs.p ∧ hp = hd dm Z1 ∧ b = 0 ∧ (∀ h ∈ Z2, h.b = 0) ∧ (fs.b ≠ 0 ∨ Z1 = [])
/-- the same when the way is gone -/
def Cut (dm : Nat) (F Z2 : List Fr) (fs : Fr) (Z1 : List Fr) (sp hp : Nat) : Prop := F = Z2 ++ fs :: Z1 ∧ sp = fs.p ∧ hp = hd dm Z1 ∧ (∀ h ∈ Z2, h.b = 0) ∧ (fs.b ≠ 0 ∨ Z1 = [])
theorem Sel.here {dm : Nat} {z : List Fr} {f : Fr} {q : Nat} {b : Int} (hb : b ≠ 0) : Sel dm (f :: z) q b q f.p := .inl ⟨rfl, rfl, .inl hb⟩
theorem Sel.cut {dm : Nat} {z : List Fr} {f : Fr} {sp hp : Nat} (h : Sel dm z f.p f.b sp hp) : ∃ Z2 fs Z1, Cut dm (f :: z) Z2 fs Z1 sp hp := by
  rcases h with ⟨h1, h2, h3⟩ | ⟨Z2, fs, Z1, h1, h2, h3, h4, h5, h6⟩
  · exact ⟨[], f, z, rfl, h1, h2, (fun h hh => by cases hh), h3⟩
  · refine ⟨f :: Z2, fs, Z1, by rw [h1]; rfl, h2, h3, fun h hh => ?_, h6⟩
    rcases List.mem_cons.1 hh with rfl | hh
    · exact h4
    · exact h5 h hh
theorem Sel.down {dm : Nat} {z : List Fr} {f : Fr} {q sp hp : Nat} {b : Int} (h : Sel dm z f.p f.b sp hp) (hb : b = 0) : Sel dm (f :: z) q b sp hp := by
  obtain ⟨Z2, fs, Z1, h1, h2, h3, h4, h5⟩ := h.cut
  exact .inr ⟨Z2, fs, Z1, h1, h2, h3, hb, h4, h5⟩
theorem ZM.lt {B p0 g dm : Nat} {w : World} : ∀ {z : List Fr} {c : Option Nat}, ZM B p0 g dm w z c → ∀ f ∈ z, f.p < w.heap.size
  | [], _, _, f, hf => by cases hf
  | f :: z, c, h, f', hf => by
    rcases List.mem_cons.1 hf with rfl | hf
    · exact Nd.lt h.1
    · exact ZM.lt h.2.2.2.2.2 f' hf
/-- while the way is gone down -/
structure Dn (g dm p0 : Nat) (x : Int) (T : Tre) (w1 wr : World) (z : List Fr) (p : Nat) (b : Int) (l : Tre) (k v : Int) (r : Tre) (sp hp : Nat) : Prop where
  zm : ZM w1.heap.size p0 g dm wr z (some p)
  nd : Nd wr p b (ad l.ptr) (ad r.ptr) k v
  il : InM wr l
  ir : InM wr r
  ol : Old w1.heap.size p0 g dm l
  or : Old w1.heap.size p0 g dm r
  mp : Mine w1.heap.size p0 p
  ne : ∀ f ∈ z, f.p ≠ p
  way : Way x z
  bal : (plug z (.nd p b l k v r)).Bal
  toL : (plug z (.nd p b l k v r)).toL = T.toL
  sz : (plug z (.nd p b l k v r)).size = T.size
  top : tip z (some p) = some p0
  lk : (Tre.nd p b l k v r).look x = T.look x
  sel : Sel dm z p b sp hp
  only : Only (Mine w1.heap.size p0) w1 wr
/-- the way is gone: no such key -/
structure En (g dm p0 : Nat) (x : Int) (T : Tre) (w1 wr : World) (F : List Fr) : Prop where
  zm : ZM w1.heap.size p0 g dm wr F none
  way : Way x F
  bal : (plug F .nil).Bal
  toL : (plug F .nil).toL = T.toL
  sz : (plug F .nil).size = T.size
  top : ∀ c, tip F c = some p0
  no : T.look x = none
  only : Only (Mine w1.heap.size p0) w1 wr
section
variable {g dm p0 p sp hp : Nat} {x b k v : Int} {T l r : Tre} {w1 wr : World} {z : List Fr}
theorem Dn.right {pr : Nat} {br rk rv : Int} {rl rr : Tre} (h : Dn g dm p0 x T w1 wr z p b l k v (.nd pr br rl rk rv rr) sp hp) (hx : k < x) {w2 : World} (hN : Nd w2 wr.heap.size br (ad rl.ptr) (ad rr.ptr) rk rv) (hS : Same wr w2) {sp' hp' : Nat} (hsel : Sel dm (⟨p, b, true, k, v, l⟩ :: z) wr.heap.size br sp' hp') :
    Dn g dm p0 x T w1 (w2.setCell ⟨p, 2, none⟩ (.pointer (at0 wr.heap.size))) (⟨p, b, true, k, v, l⟩ :: z) wr.heap.size br rl rk rv rr sp' hp' := by
  have hO : Only (fun y => y = p) wr (w2.setCell ⟨p, 2, none⟩ (.pointer (at0 wr.heap.size))) := only2 (hS.mono (fun _ _ f => f.elim)) rfl
  have hp0 := h.nd.lt
  have hB : w1.heap.size ≤ wr.heap.size := h.only.size
  have hk : ∀ y, y = p → ¬ Kept w1.heap.size p0 g dm y := fun y hy => hy ▸ not_kept h.mp
  have hc : InM wr (.nd pr br rl rk rv rr) := h.ir
  have oc : Old w1.heap.size p0 g dm (.nd pr br rl rk rv rr) := h.or
  have i1 : InM (w2.setCell ⟨p, 2, none⟩ (.pointer (at0 wr.heap.size))) rl := hc.2.1.keep hO (fun y hy e => hk y e (oc y (.inr (.inl hy))))
  have i2 : InM (w2.setCell ⟨p, 2, none⟩ (.pointer (at0 wr.heap.size))) rr := hc.2.2.1.keep hO (fun y hy e => hk y e (oc y (.inr (.inr hy))))
  have hput : ∀ q, plug (⟨p, b, true, k, v, l⟩ :: z) (.nd q br rl rk rv rr) = plug z (Fr.put ⟨p, b, true, k, v, l⟩ (.nd q br rl rk rv rr)) := fun q => rfl
  have hpr : plug (⟨p, b, true, k, v, l⟩ :: z) (.nd pr br rl rk rv rr) = plug z (Tre.nd p b l k v (.nd pr br rl rk rv rr)) := rfl
  refine ⟨⟨Nd.set1 (h.nd.still hS) _, h.il.keep hO (fun y hy e => hk y e (h.ol y hy)), h.ol, h.mp, h.ne, h.zm.keep hO hk (fun f hf e => h.ne f hf e)⟩, hN.off (by omega), i1, i2, fun y hy => oc y (.inr (.inl hy)), fun y hy => oc y (.inr (.inr hy)), .inr hB, fun f hf => ?_, fun f hf => ?_, ?_, ?_, ?_, h.top, ?_, hsel, h.only.trans hO (fun y _ e => e ▸ h.mp)⟩
  · rcases List.mem_cons.1 hf with rfl | hf
    · exact Nat.ne_of_lt hp0
    · exact Nat.ne_of_lt (h.zm.lt f hf)
  · rcases List.mem_cons.1 hf with rfl | hf
    · exact hx
    · exact h.way f hf
  · have hb := h.bal
    rw [← hpr] at hb
    exact plug_bal _ (t := .nd pr br rl rk rv rr) rfl (by have h2 := plug_sub _ hb; exact h2) hb
  · rw [← h.toL, ← hpr, plug_toL, plug_toL]; rfl
  · rw [← h.sz, ← hpr]
    exact plug_size _ (t := .nd pr br rl rk rv rr) 0 rfl
  · have := h.lk
    rw [show (Tre.nd p b l k v (.nd pr br rl rk rv rr)).look x = (Tre.nd pr br rl rk rv rr).look x from if_pos hx] at this
    exact this
theorem Dn.end_right (h : Dn g dm p0 x T w1 wr z p b l k v .nil sp hp) (hx : k < x) : En g dm p0 x T w1 wr (⟨p, b, true, k, v, l⟩ :: z) := by
  refine ⟨⟨h.nd, h.il, h.ol, h.mp, h.ne, h.zm⟩, fun f hf => ?_, h.bal, h.toL, h.sz, fun c => h.top, ?_, h.only⟩
  · rcases List.mem_cons.1 hf with rfl | hf
    · exact hx
    · exact h.way f hf
  · have := h.lk
    rw [show (Tre.nd p b l k v .nil).look x = none from if_pos hx] at this
    exact this.symm
theorem Dn.left {pr : Nat} {br rk rv : Int} {rl rr : Tre} (h : Dn g dm p0 x T w1 wr z p b (.nd pr br rl rk rv rr) k v r sp hp) (hx : x < k) {w2 : World} (hN : Nd w2 wr.heap.size br (ad rl.ptr) (ad rr.ptr) rk rv) (hS : Same wr w2) {sp' hp' : Nat} (hsel : Sel dm (⟨p, b, false, k, v, r⟩ :: z) wr.heap.size br sp' hp') :
    Dn g dm p0 x T w1 (w2.setCell ⟨p, 1, none⟩ (.pointer (at0 wr.heap.size))) (⟨p, b, false, k, v, r⟩ :: z) wr.heap.size br rl rk rv rr sp' hp' := by
  have hO : Only (fun y => y = p) wr (w2.setCell ⟨p, 1, none⟩ (.pointer (at0 wr.heap.size))) := only2 (hS.mono (fun _ _ f => f.elim)) rfl
  have hp0 := h.nd.lt
  have hB : w1.heap.size ≤ wr.heap.size := h.only.size
  have hk : ∀ y, y = p → ¬ Kept w1.heap.size p0 g dm y := fun y hy => hy ▸ not_kept h.mp
  have hc : InM wr (.nd pr br rl rk rv rr) := h.il
  have oc : Old w1.heap.size p0 g dm (.nd pr br rl rk rv rr) := h.ol
  have i1 : InM (w2.setCell ⟨p, 1, none⟩ (.pointer (at0 wr.heap.size))) rl := hc.2.1.keep hO (fun y hy e => hk y e (oc y (.inr (.inl hy))))
  have i2 : InM (w2.setCell ⟨p, 1, none⟩ (.pointer (at0 wr.heap.size))) rr := hc.2.2.1.keep hO (fun y hy e => hk y e (oc y (.inr (.inr hy))))
  have hput : ∀ q, plug (⟨p, b, false, k, v, r⟩ :: z) (.nd q br rl rk rv rr) = plug z (Fr.put ⟨p, b, false, k, v, r⟩ (.nd q br rl rk rv rr)) := fun q => rfl
  have hpr : plug (⟨p, b, false, k, v, r⟩ :: z) (.nd pr br rl rk rv rr) = plug z (Tre.nd p b (.nd pr br rl rk rv rr) k v r) := rfl
  refine ⟨⟨Nd.set0 (h.nd.still hS) _, h.ir.keep hO (fun y hy e => hk y e (h.or y hy)), h.or, h.mp, h.ne, h.zm.keep hO hk (fun f hf e => h.ne f hf e)⟩, hN.off (by omega), i1, i2, fun y hy => oc y (.inr (.inl hy)), fun y hy => oc y (.inr (.inr hy)), .inr hB, fun f hf => ?_, fun f hf => ?_, ?_, ?_, ?_, h.top, ?_, hsel, h.only.trans hO (fun y _ e => e ▸ h.mp)⟩
  · rcases List.mem_cons.1 hf with rfl | hf
    · exact Nat.ne_of_lt hp0
    · exact Nat.ne_of_lt (h.zm.lt f hf)
  · rcases List.mem_cons.1 hf with rfl | hf
    · exact hx
    · exact h.way f hf
  · have hb := h.bal
    rw [← hpr] at hb
    exact plug_bal _ (t := .nd pr br rl rk rv rr) rfl (by have h2 := plug_sub _ hb; exact h2) hb
  · rw [← h.toL, ← hpr, plug_toL, plug_toL]; rfl
  · rw [← h.sz, ← hpr]
    exact plug_size _ (t := .nd pr br rl rk rv rr) 0 rfl
  · have := h.lk
    rw [show (Tre.nd p b (.nd pr br rl rk rv rr) k v r).look x = (Tre.nd pr br rl rk rv rr).look x from (if_neg (by omega)).trans (if_pos hx)] at this
    exact this
theorem Dn.end_left (h : Dn g dm p0 x T w1 wr z p b .nil k v r sp hp) (hx : x < k) : En g dm p0 x T w1 wr (⟨p, b, false, k, v, r⟩ :: z) := by
  refine ⟨⟨h.nd, h.ir, h.or, h.mp, h.ne, h.zm⟩, fun f hf => ?_, h.bal, h.toL, h.sz, fun c => h.top, ?_, h.only⟩
  · rcases List.mem_cons.1 hf with rfl | hf
    · exact hx
    · exact h.way f hf
  · have := h.lk
    rw [show (Tre.nd p b .nil k v r).look x = none from (if_neg (by omega)).trans (if_pos hx)] at this
    exact this.symm
end
end Go.Proofs.Ytdamanckgmkbiaa.av

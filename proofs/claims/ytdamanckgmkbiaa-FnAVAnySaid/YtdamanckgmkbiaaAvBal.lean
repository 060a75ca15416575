/-
  An AVL tree's insert: the rotation at its end, in memory.
-/
import Derived.Test.YtdamanckgmkbiaaAvUp
namespace Go.Proofs.Ytdamanckgmkbiaa.av
open Go.RowKit Go.Proofs.Ytdamanckgmkbiaa.base Go.Proofs.Ytdamanckgmkbiaa.heap Go.Proofs.Ytdamanckgmkbiaa.rows
open Tre
set_option linter.unusedVariables false
/-- a new subtree, ahead of its being hung -/
structure Rt (g dm p0 : Nat) (T : Tre) (w3 wr : World) (Z1 : List Fr) (c : Option Nat) (S : Tre) : Prop where
  zm : ZM w3.heap.size p0 g dm wr Z1 c
  si : InM wr S
  fit : Fit w3.heap.size p0 g dm Z1 S
  ob : Ob wr g (at0 p0) (T.size + 1) 0 none none
  dy : Dm wr dm (at0 p0)
  on : Only (fun y => Mine w3.heap.size p0 y ∨ y = g) w3 wr
  top : ∀ y, S.ptr = some y → Mine w3.heap.size p0 y
/-- something lies at a block's head -/
def Liv (w : World) (b : Nat) : Prop := ∃ c t, w.heap[b]? = some (.cells c t (0, 0))
theorem Nd.liv {w : World} {p : Nat} {b : Int} {c0 c1 : Option Addr} {k v : Int} (h : Nd w p b c0 c1 k v) : Liv w p := ⟨_, _, h⟩
/-- said of insertBalance: what is below is balanced, as high as it was, and in the same order -/
def BalP (g dm p0 : Nat) (T : Tre) (w3 : World) (Z1 : List Fr) (c : Option Nat) (Y : Tre) (H : Nat) (e : Ending) (w' : World) : Prop :=
  ∃ (s : Nat) (S : Tre), e = .returned (.pointer (at0 s)) ∧ S.ptr = some s ∧ Rt g dm p0 T w3 w' Z1 c S ∧ S.Bal ∧ S.ht = H ∧ S.toL = Y.toL ∧ ∀ y, c = some y → Liv w' y
section
variable {g dm p0 q : Nat} {x u : Int} {T : Tre} {w w3 wr w' : World}
theorem leaf_in {F : List Fr} (h : Up g dm p0 x u T w3 wr F q) : InM wr (.nd q 0 .nil x u .nil) ∧ Fit w3.heap.size p0 g dm F (.nd q 0 .nil x u .nil) :=
  ⟨⟨h.nq, trivial, trivial, fun e => e, fun e => e⟩, fun y hy => by
    rcases hy with rfl | hy | hy
    · exact .inr ⟨h.mq, h.ne⟩
    · exact hy.elim
    · exact hy.elim⟩
theorem rt_mk {F Z1 : List Fr} {c : Option Nat} {S : Tre} {W : Nat → Prop} (h : Up g dm p0 x u T w3 wr F q) (hB : Beg g dm p0 T w w3) (hz : ZM w3.heap.size p0 g dm wr Z1 c) (hO : Only W wr w') (hW : ∀ y, W y → Mine w3.heap.size p0 y ∧ ∀ f ∈ Z1, f.p ≠ y) (hi : InM w' S) (hf : Fit w3.heap.size p0 g dm Z1 S) (ht : ∀ y, S.ptr = some y → Mine w3.heap.size p0 y) : Rt g dm p0 T w3 w' Z1 c S :=
  ⟨hz.keep hO (fun y hy => not_kept (hW y hy).1) (fun f hf e => (hW _ e).2 f hf rfl), hi, hf, h.ob.keep hO (fun e => hB.mine.1 (hW _ e).1), hO.obj h.dy (fun e => hB.mine.2 (hW _ e).1), h.on.trans hO (fun y _ e => .inl (hW y e).1), ht⟩
theorem plug_split (Z2 Z1 : List Fr) (f : Fr) (t : Tre) : plug (Z2 ++ f :: Z1) t = plug Z1 (f.put (plug Z2 t)) := by
  rw [plug_app]; rfl
set_option maxRecDepth 100000 in
theorem bal_right {Z2 Z1 : List Fr} {p : Nat} {k v : Int} {A : Tre} (h : Up g dm p0 x u T w3 wr (heavies Z2 ++ (Fr.heavy ⟨p, 1, true, k, v, A⟩) :: Z1) q) (hB : Beg g dm p0 T w w3) (hZ : ∀ f ∈ Z2, f.b = 0) (hbal : (plug (Z2 ++ ⟨p, 1, true, k, v, A⟩ :: Z1) .nil).Bal) :
    Calls Try.prog 41 #[.pointer (at0 p), .int .i64 1] wr (BalP g dm p0 T w3 Z1 (some p) (Fr.put (Fr.heavy ⟨p, 1, true, k, v, A⟩) (plug (heavies Z2) (.nd q 0 .nil x u .nil))) (Fr.put ⟨p, 1, true, k, v, A⟩ (plug Z2 .nil)).ht) := by
  rw [plug_split] at hbal
  have hput := plug_sub Z1 hbal
  have hne : Z2 ≠ [] := fun e => by
    subst e
    have h1 : (1 : Int) = ((0 : Nat) : Int) - (A.ht : Int) := hput.1
    omega
  obtain ⟨Z3, nf, rfl⟩ : ∃ Z3 nf, Z2 = Z3 ++ [nf] := (List.eq_nil_or_concat Z2).resolve_left hne |>.imp (fun a => fun ⟨b, e⟩ => ⟨b, by rw [e]; simp⟩)
  obtain ⟨a1, a2, a3, a4, a5⟩ : (1 : Int) = (plug (Z3 ++ [nf]) .nil).ht - A.ht ∧ -1 ≤ (1 : Int) ∧ (1 : Int) ≤ 1 ∧ A.Bal ∧ (plug (Z3 ++ [nf]) .nil).Bal := hput
  obtain ⟨gb, gh⟩ := grow_even (Z3 ++ [nf]) q x u hZ a5
  have hn0 : nf.b = 0 := hZ nf (by simp)
  obtain ⟨li, lf⟩ := leaf_in h
  have hz := h.zm
  have hne' := h.ne
  rw [heavies_app, List.append_assoc] at hz lf hne'
  rw [heavies_app, plug_app] at gb gh ⊢
  obtain ⟨ci, cf⟩ := zm_sub (t := .nd q 0 .nil x u .nil) hz li lf
  obtain ⟨m, hm1, hm2, hm3⟩ := tip_mine hz h.mq hne'
  have hptr : (plug (heavies Z3) (.nd q 0 .nil x u .nil)).ptr = some m := (plug_ptr _ _).trans hm1
  obtain ⟨_, z2, _⟩ := ZM.app.1 hz
  rw [hm1, ← hptr] at z2
  generalize plug (heavies Z3) (.nd q 0 .nil x u .nil) = C0 at ci cf gb gh hptr z2 ⊢
  obtain ⟨f1, f2, f3, f4, f5, e1, e2, e3, e4, e5, hz1⟩ := z2
  obtain ⟨n, bn, dn, kn, vn, sn⟩ := nf
  have hb0 : bn = 0 := hn0
  subst hb0
  have pf := e1
  have hpn : p ≠ n := f5 _ (List.mem_cons_self ..)
  have hnZ : ∀ f ∈ Z1, f.p ≠ n := fun f hf => f5 f (List.mem_cons_of_mem _ hf)
  have hcp : ¬ C0.blk p := fun e => by
    rcases cf p e with e | ⟨_, e⟩
    · exact not_kept e4 e
    · exact e (Fr.heavy ⟨p, 1, true, k, v, A⟩) (List.mem_cons_of_mem _ (List.mem_cons_self ..)) rfl
  have hcn : ¬ C0.blk n := fun e => by
    rcases cf n e with e | ⟨_, e⟩
    · exact not_kept f4 e
    · exact e _ (List.mem_cons_self ..) rfl
  have hAp : ¬ A.blk p := fun e => not_kept e4 (e3 p e)
  have hAn : ¬ A.blk n := fun e => not_kept f4 (e3 n e)
  have hsp : ¬ sn.blk p := fun e => not_kept e4 (f3 p e)
  have hsn : ¬ sn.blk n := fun e => not_kept f4 (f3 n e)
  have fitC : Fit w3.heap.size p0 g dm Z1 C0 := fun y hy => (cf y hy).imp id (fun e => ⟨e.1, fun f hf => e.2 f (List.mem_cons_of_mem _ (List.mem_cons_of_mem _ hf))⟩)
  have hpp : Nd wr p ((1 : Int) + 1) (ad A.ptr) (at0 n) k v := pf
  cases dn with
  | true =>
    have hnn : Nd wr n (1) (ad sn.ptr) (ad C0.ptr) kn vn := f1
    have gb' : ((.nd n 1 sn kn vn C0) : Tre).Bal := gb
    have gh' : ((.nd n 1 sn kn vn C0) : Tre).ht = (plug (Z3 ++ [⟨n, 0, true, kn, vn, sn⟩]) .nil).ht + 1 := gh
    obtain ⟨s1, s2⟩ := single_l (p := p) (k := k) (v := v) gb' a4 (by rw [gh']; omega)
    refine (insS1 hpp hnn hpn).mono ?_
    rintro e w' ⟨rfl, ⟨n1, n2⟩, hO, _⟩
    have hW : ∀ y, (y = p ∨ y = n) → Mine w3.heap.size p0 y ∧ ∀ f ∈ Z1, f.p ≠ y := fun y hy => by
      rcases hy with rfl | rfl
      · exact ⟨e4, e5⟩
      · exact ⟨f4, hnZ⟩
    have hk : ∀ {t : Tre}, InM wr t → ¬ t.blk p → ¬ t.blk n → InM w' t := fun ht h1 h2 => ht.keep hO (fun y hy e => by
      rcases e with rfl | rfl
      · exact h1 hy
      · exact h2 hy)
    refine ⟨n, (.nd n 0 (.nd p 0 A k v sn) kn vn C0), rfl, rfl, rt_mk h hB hz1 hO hW ?_ ?_ (fun y hy => by cases hy; exact f4), s1, ?_, ?_, fun y hy => by (cases hy; exact n1.liv)⟩
    · refine ⟨n2, ⟨n1, hk e2 hAp hAn, hk f2 hsp hsn, hAp, hsp⟩, hk ci hcp hcn, ?_, hcn⟩
      rintro (e | e | e)
      · exact hpn e.symm
      · exact hAn e
      · exact hsn e
    · have fs : ∀ y, sn.blk y → Kept w3.heap.size p0 g dm y := f3
      have fa : ∀ y, A.blk y → Kept w3.heap.size p0 g dm y := e3
      intro y hy
      have hy' : y = n ∨ y = p ∨ A.blk y ∨ sn.blk y ∨ C0.blk y := by
        rcases hy with hy | hy | hy
        · exact .inl hy
        · rcases hy with hy | hy | hy
          · exact .inr (.inl hy)
          · exact .inr (.inr (.inl hy))
          · exact .inr (.inr (.inr (.inl hy)))
        · exact .inr (.inr (.inr (.inr hy)))
      rcases hy' with rfl | rfl | hy | hy | hy
      · exact .inr ⟨f4, hnZ⟩
      · exact .inr ⟨e4, e5⟩
      · exact .inl (fa y hy)
      · exact .inl (fs y hy)
      · exact fitC y hy
    · rw [s2]
      show A.ht + 2 = max A.ht (plug (Z3 ++ [⟨n, 0, true, kn, vn, sn⟩]) .nil).ht + 1
      omega
    · show (A.toL ++ (k, v) :: sn.toL) ++ (kn, vn) :: C0.toL = A.toL ++ (k, v) :: (sn.toL ++ (kn, vn) :: C0.toL)
      simp
  | false =>
    cases C0 with
    | nil => cases hptr
    | nd m' bm B1 km vm B2 =>
    obtain rfl : m' = m := Option.some.inj hptr
    have hnn : Nd wr n (-1) (at0 m') (ad sn.ptr) kn vn := f1
    have gb' : ((.nd n (-1) (.nd m' bm B1 km vm B2) kn vn sn) : Tre).Bal := gb
    have gh' : ((.nd n (-1) (.nd m' bm B1 km vm B2) kn vn sn) : Tre).ht = (plug (Z3 ++ [⟨n, 0, false, kn, vn, sn⟩]) .nil).ht + 1 := gh
    obtain ⟨s1, s2⟩ := double_l (p := p) (k := k) (v := v) gb' a4 (by rw [gh']; omega)
    obtain ⟨mn, i1, i2, j1, j2⟩ := ci
    have hbm : -1 ≤ bm ∧ bm ≤ 1 := by
      have hc := gb.2.2.2.1
      exact ⟨hc.2.1, hc.2.2.1⟩
    have hpm : p ≠ m' := hm3 (Fr.heavy ⟨p, 1, true, k, v, A⟩) (List.mem_cons_of_mem _ (List.mem_cons_self ..))
    have hnm : n ≠ m' := hm3 _ (List.mem_cons_self ..)
    have hmZ : ∀ f ∈ Z1, f.p ≠ m' := fun f hf => hm3 f (List.mem_cons_of_mem _ (List.mem_cons_of_mem _ hf))
    have hAm : ¬ A.blk m' := fun e => not_kept hm2 (e3 m' e)
    have hsm : ¬ sn.blk m' := fun e => not_kept hm2 (f3 m' e)
    have inB1 : ∀ y, B1.blk y → ((.nd m' bm B1 km vm B2) : Tre).blk y := fun y hy => .inr (.inl hy)
    have inB2 : ∀ y, B2.blk y → ((.nd m' bm B1 km vm B2) : Tre).blk y := fun y hy => .inr (.inr hy)
    refine (insD1 hpp hnn mn hpn hpm hnm hbm).mono ?_
    rintro e w' ⟨rfl, ⟨n1, n2, n3⟩, hO, _⟩
    have hW : ∀ y, (y = p ∨ y = n ∨ y = m') → Mine w3.heap.size p0 y ∧ ∀ f ∈ Z1, f.p ≠ y := fun y hy => by
      rcases hy with rfl | rfl | rfl
      · exact ⟨e4, e5⟩
      · exact ⟨f4, hnZ⟩
      · exact ⟨hm2, hmZ⟩
    have hk : ∀ {t : Tre}, InM wr t → ¬ t.blk p → ¬ t.blk n → ¬ t.blk m' → InM w' t := fun ht h1 h2 h3 => ht.keep hO (fun y hy e => by
      rcases e with rfl | rfl | rfl
      · exact h1 hy
      · exact h2 hy
      · exact h3 hy)
    have b1p : ¬ B1.blk p := fun e => hcp (inB1 p e)
    have b1n : ¬ B1.blk n := fun e => hcn (inB1 n e)
    have b2p : ¬ B2.blk p := fun e => hcp (inB2 p e)
    have b2n : ¬ B2.blk n := fun e => hcn (inB2 n e)
    have nP : ∀ {y : Nat} {c : Int}, y ≠ p → ¬ A.blk y → ¬ B1.blk y → ¬ ((.nd p c A k v B1) : Tre).blk y := fun h1 h2 h3 e => by
      rcases e with e | e | e
      · exact h1 e
      · exact h2 e
      · exact h3 e
    have nN : ∀ {y : Nat} {c : Int}, y ≠ n → ¬ sn.blk y → ¬ B2.blk y → ¬ ((.nd n c B2 kn vn sn) : Tre).blk y := fun h1 h2 h3 e => by
      rcases e with e | e | e
      · exact h1 e
      · exact h3 e
      · exact h2 e
    refine ⟨m', (.nd m' 0 (.nd p (up2 bm) A k v B1) km vm (.nd n (lo2 bm) B2 kn vn sn)), rfl, rfl, rt_mk h hB hz1 hO hW ?_ ?_ (fun y hy => by cases hy; exact hm2), s1, ?_, ?_, fun y hy => by (cases hy; exact n1.liv)⟩
    · exact ⟨n3, ⟨n1, hk e2 hAp hAn hAm, hk i1 b1p b1n j1, hAp, b1p⟩, ⟨n2, hk i2 b2p b2n j2, hk f2 hsp hsn hsm, b2n, hsn⟩, nP (fun e => hpm e.symm) hAm j1, nN (fun e => hnm e.symm) hsm j2⟩
    · have fs : ∀ y, sn.blk y → Kept w3.heap.size p0 g dm y := f3
      have fa : ∀ y, A.blk y → Kept w3.heap.size p0 g dm y := e3
      intro y hy
      have hy' : y = m' ∨ y = p ∨ y = n ∨ A.blk y ∨ sn.blk y ∨ B1.blk y ∨ B2.blk y := by
        rcases hy with hy | (hy | hy | hy) | (hy | hy | hy)
        · exact .inl hy
        · exact .inr (.inl hy)
        · exact .inr (.inr (.inr (.inl hy)))
        · exact .inr (.inr (.inr (.inr (.inr (.inl hy)))))
        · exact .inr (.inr (.inl hy))
        · exact .inr (.inr (.inr (.inr (.inr (.inr hy)))))
        · exact .inr (.inr (.inr (.inr (.inl hy))))
      rcases hy' with rfl | rfl | rfl | hy | hy | hy | hy
      · exact .inr ⟨hm2, hmZ⟩
      · exact .inr ⟨e4, e5⟩
      · exact .inr ⟨f4, hnZ⟩
      · exact .inl (fa y hy)
      · exact .inl (fs y hy)
      · exact fitC y (inB1 y hy)
      · exact fitC y (inB2 y hy)
    · rw [s2]
      show A.ht + 2 = max A.ht (plug (Z3 ++ [⟨n, 0, false, kn, vn, sn⟩]) .nil).ht + 1
      omega
    · show (A.toL ++ (k, v) :: B1.toL) ++ (km, vm) :: (B2.toL ++ (kn, vn) :: sn.toL) = A.toL ++ (k, v) :: ((B1.toL ++ (km, vm) :: B2.toL) ++ (kn, vn) :: sn.toL)
      simp
set_option maxRecDepth 100000 in
theorem bal_left {Z2 Z1 : List Fr} {p : Nat} {k v : Int} {A : Tre} (h : Up g dm p0 x u T w3 wr (heavies Z2 ++ (Fr.heavy ⟨p, -1, false, k, v, A⟩) :: Z1) q) (hB : Beg g dm p0 T w w3) (hZ : ∀ f ∈ Z2, f.b = 0) (hbal : (plug (Z2 ++ ⟨p, -1, false, k, v, A⟩ :: Z1) .nil).Bal) :
    Calls Try.prog 41 #[.pointer (at0 p), .int .i64 0] wr (BalP g dm p0 T w3 Z1 (some p) (Fr.put (Fr.heavy ⟨p, -1, false, k, v, A⟩) (plug (heavies Z2) (.nd q 0 .nil x u .nil))) (Fr.put ⟨p, -1, false, k, v, A⟩ (plug Z2 .nil)).ht) := by
  rw [plug_split] at hbal
  have hput := plug_sub Z1 hbal
  have hne : Z2 ≠ [] := fun e => by
    subst e
    have h1 : (-1 : Int) = (A.ht : Int) - ((0 : Nat) : Int) := hput.1
    omega
  obtain ⟨Z3, nf, rfl⟩ : ∃ Z3 nf, Z2 = Z3 ++ [nf] := (List.eq_nil_or_concat Z2).resolve_left hne |>.imp (fun a => fun ⟨b, e⟩ => ⟨b, by rw [e]; simp⟩)
  obtain ⟨a1, a2, a3, a4, a5⟩ : (-1 : Int) = A.ht - (plug (Z3 ++ [nf]) .nil).ht ∧ -1 ≤ (-1 : Int) ∧ (-1 : Int) ≤ 1 ∧ (plug (Z3 ++ [nf]) .nil).Bal ∧ A.Bal := hput
  obtain ⟨gb, gh⟩ := grow_even (Z3 ++ [nf]) q x u hZ a4
  have hn0 : nf.b = 0 := hZ nf (by simp)
  obtain ⟨li, lf⟩ := leaf_in h
  have hz := h.zm
  have hne' := h.ne
  rw [heavies_app, List.append_assoc] at hz lf hne'
  rw [heavies_app, plug_app] at gb gh ⊢
  obtain ⟨ci, cf⟩ := zm_sub (t := .nd q 0 .nil x u .nil) hz li lf
  obtain ⟨m, hm1, hm2, hm3⟩ := tip_mine hz h.mq hne'
  have hptr : (plug (heavies Z3) (.nd q 0 .nil x u .nil)).ptr = some m := (plug_ptr _ _).trans hm1
  obtain ⟨_, z2, _⟩ := ZM.app.1 hz
  rw [hm1, ← hptr] at z2
  generalize plug (heavies Z3) (.nd q 0 .nil x u .nil) = C0 at ci cf gb gh hptr z2 ⊢
  obtain ⟨f1, f2, f3, f4, f5, e1, e2, e3, e4, e5, hz1⟩ := z2
  obtain ⟨n, bn, dn, kn, vn, sn⟩ := nf
  have hb0 : bn = 0 := hn0
  subst hb0
  have pf := e1
  have hpn : p ≠ n := f5 _ (List.mem_cons_self ..)
  have hnZ : ∀ f ∈ Z1, f.p ≠ n := fun f hf => f5 f (List.mem_cons_of_mem _ hf)
  have hcp : ¬ C0.blk p := fun e => by
    rcases cf p e with e | ⟨_, e⟩
    · exact not_kept e4 e
    · exact e (Fr.heavy ⟨p, -1, false, k, v, A⟩) (List.mem_cons_of_mem _ (List.mem_cons_self ..)) rfl
  have hcn : ¬ C0.blk n := fun e => by
    rcases cf n e with e | ⟨_, e⟩
    · exact not_kept f4 e
    · exact e _ (List.mem_cons_self ..) rfl
  have hAp : ¬ A.blk p := fun e => not_kept e4 (e3 p e)
  have hAn : ¬ A.blk n := fun e => not_kept f4 (e3 n e)
  have hsp : ¬ sn.blk p := fun e => not_kept e4 (f3 p e)
  have hsn : ¬ sn.blk n := fun e => not_kept f4 (f3 n e)
  have fitC : Fit w3.heap.size p0 g dm Z1 C0 := fun y hy => (cf y hy).imp id (fun e => ⟨e.1, fun f hf => e.2 f (List.mem_cons_of_mem _ (List.mem_cons_of_mem _ hf))⟩)
  have hpp : Nd wr p ((-1 : Int) - 1) (at0 n) (ad A.ptr) k v := pf
  cases dn with
  | false =>
    have hnn : Nd wr n (-1) (ad C0.ptr) (ad sn.ptr) kn vn := f1
    have gb' : ((.nd n (-1) C0 kn vn sn) : Tre).Bal := gb
    have gh' : ((.nd n (-1) C0 kn vn sn) : Tre).ht = (plug (Z3 ++ [⟨n, 0, false, kn, vn, sn⟩]) .nil).ht + 1 := gh
    obtain ⟨s1, s2⟩ := single_r (p := p) (k := k) (v := v) gb' a5 (by rw [gh']; omega)
    refine (insS0 hpp hnn hpn).mono ?_
    rintro e w' ⟨rfl, ⟨n1, n2⟩, hO, _⟩
    have hW : ∀ y, (y = p ∨ y = n) → Mine w3.heap.size p0 y ∧ ∀ f ∈ Z1, f.p ≠ y := fun y hy => by
      rcases hy with rfl | rfl
      · exact ⟨e4, e5⟩
      · exact ⟨f4, hnZ⟩
    have hk : ∀ {t : Tre}, InM wr t → ¬ t.blk p → ¬ t.blk n → InM w' t := fun ht h1 h2 => ht.keep hO (fun y hy e => by
      rcases e with rfl | rfl
      · exact h1 hy
      · exact h2 hy)
    refine ⟨n, (.nd n 0 C0 kn vn (.nd p 0 sn k v A)), rfl, rfl, rt_mk h hB hz1 hO hW ?_ ?_ (fun y hy => by cases hy; exact f4), s1, ?_, ?_, fun y hy => by (cases hy; exact n1.liv)⟩
    · refine ⟨n2, hk ci hcp hcn, ⟨n1, hk f2 hsp hsn, hk e2 hAp hAn, hsp, hAp⟩, hcn, ?_⟩
      rintro (e | e | e)
      · exact hpn e.symm
      · exact hsn e
      · exact hAn e
    · have fs : ∀ y, sn.blk y → Kept w3.heap.size p0 g dm y := f3
      have fa : ∀ y, A.blk y → Kept w3.heap.size p0 g dm y := e3
      intro y hy
      have hy' : y = n ∨ y = p ∨ A.blk y ∨ sn.blk y ∨ C0.blk y := by
        rcases hy with hy | hy | hy
        · exact .inl hy
        · exact .inr (.inr (.inr (.inr hy)))
        · rcases hy with hy | hy | hy
          · exact .inr (.inl hy)
          · exact .inr (.inr (.inr (.inl hy)))
          · exact .inr (.inr (.inl hy))
      rcases hy' with rfl | rfl | hy | hy | hy
      · exact .inr ⟨f4, hnZ⟩
      · exact .inr ⟨e4, e5⟩
      · exact .inl (fa y hy)
      · exact .inl (fs y hy)
      · exact fitC y hy
    · rw [s2]
      show A.ht + 2 = max (plug (Z3 ++ [⟨n, 0, false, kn, vn, sn⟩]) .nil).ht A.ht + 1
      omega
    · show C0.toL ++ (kn, vn) :: (sn.toL ++ (k, v) :: A.toL) = (C0.toL ++ (kn, vn) :: sn.toL) ++ (k, v) :: A.toL
      simp
  | true =>
    cases C0 with
    | nil => cases hptr
    | nd m' bm B2 km vm B1 =>
    obtain rfl : m' = m := Option.some.inj hptr
    have hnn : Nd wr n (1) (ad sn.ptr) (at0 m') kn vn := f1
    have gb' : ((.nd n 1 sn kn vn (.nd m' bm B2 km vm B1)) : Tre).Bal := gb
    have gh' : ((.nd n 1 sn kn vn (.nd m' bm B2 km vm B1)) : Tre).ht = (plug (Z3 ++ [⟨n, 0, true, kn, vn, sn⟩]) .nil).ht + 1 := gh
    obtain ⟨s1, s2⟩ := double_r (p := p) (k := k) (v := v) gb' a5 (by rw [gh']; omega)
    obtain ⟨mn, i2, i1, j2, j1⟩ := ci
    have hbm : -1 ≤ bm ∧ bm ≤ 1 := by
      have hc := gb.2.2.2.2
      exact ⟨hc.2.1, hc.2.2.1⟩
    have hpm : p ≠ m' := hm3 (Fr.heavy ⟨p, -1, false, k, v, A⟩) (List.mem_cons_of_mem _ (List.mem_cons_self ..))
    have hnm : n ≠ m' := hm3 _ (List.mem_cons_self ..)
    have hmZ : ∀ f ∈ Z1, f.p ≠ m' := fun f hf => hm3 f (List.mem_cons_of_mem _ (List.mem_cons_of_mem _ hf))
    have hAm : ¬ A.blk m' := fun e => not_kept hm2 (e3 m' e)
    have hsm : ¬ sn.blk m' := fun e => not_kept hm2 (f3 m' e)
    have inB1 : ∀ y, B1.blk y → ((.nd m' bm B2 km vm B1) : Tre).blk y := fun y hy => .inr (.inr hy)
    have inB2 : ∀ y, B2.blk y → ((.nd m' bm B2 km vm B1) : Tre).blk y := fun y hy => .inr (.inl hy)
    refine (insD0 hpp hnn mn hpn hpm hnm hbm).mono ?_
    rintro e w' ⟨rfl, ⟨n1, n2, n3⟩, hO, _⟩
    have hW : ∀ y, (y = p ∨ y = n ∨ y = m') → Mine w3.heap.size p0 y ∧ ∀ f ∈ Z1, f.p ≠ y := fun y hy => by
      rcases hy with rfl | rfl | rfl
      · exact ⟨e4, e5⟩
      · exact ⟨f4, hnZ⟩
      · exact ⟨hm2, hmZ⟩
    have hk : ∀ {t : Tre}, InM wr t → ¬ t.blk p → ¬ t.blk n → ¬ t.blk m' → InM w' t := fun ht h1 h2 h3 => ht.keep hO (fun y hy e => by
      rcases e with rfl | rfl | rfl
      · exact h1 hy
      · exact h2 hy
      · exact h3 hy)
    have b1p : ¬ B1.blk p := fun e => hcp (inB1 p e)
    have b1n : ¬ B1.blk n := fun e => hcn (inB1 n e)
    have b2p : ¬ B2.blk p := fun e => hcp (inB2 p e)
    have b2n : ¬ B2.blk n := fun e => hcn (inB2 n e)
    have nP : ∀ {y : Nat} {c : Int}, y ≠ p → ¬ A.blk y → ¬ B1.blk y → ¬ ((.nd p c B1 k v A) : Tre).blk y := fun h1 h2 h3 e => by
      rcases e with e | e | e
      · exact h1 e
      · exact h3 e
      · exact h2 e
    have nN : ∀ {y : Nat} {c : Int}, y ≠ n → ¬ sn.blk y → ¬ B2.blk y → ¬ ((.nd n c sn kn vn B2) : Tre).blk y := fun h1 h2 h3 e => by
      rcases e with e | e | e
      · exact h1 e
      · exact h2 e
      · exact h3 e
    refine ⟨m', (.nd m' 0 (.nd n (-lo2 (-bm)) sn kn vn B2) km vm (.nd p (-up2 (-bm)) B1 k v A)), rfl, rfl, rt_mk h hB hz1 hO hW ?_ ?_ (fun y hy => by cases hy; exact hm2), s1, ?_, ?_, fun y hy => by (cases hy; exact n1.liv)⟩
    · exact ⟨n3, ⟨n2, hk f2 hsp hsn hsm, hk i2 b2p b2n j2, hsn, b2n⟩, ⟨n1, hk i1 b1p b1n j1, hk e2 hAp hAn hAm, b1p, hAp⟩, nN (fun e => hnm e.symm) hsm j2, nP (fun e => hpm e.symm) hAm j1⟩
    · have fs : ∀ y, sn.blk y → Kept w3.heap.size p0 g dm y := f3
      have fa : ∀ y, A.blk y → Kept w3.heap.size p0 g dm y := e3
      intro y hy
      have hy' : y = m' ∨ y = p ∨ y = n ∨ A.blk y ∨ sn.blk y ∨ B1.blk y ∨ B2.blk y := by
        rcases hy with hy | (hy | hy | hy) | (hy | hy | hy)
        · exact .inl hy
        · exact .inr (.inr (.inl hy))
        · exact .inr (.inr (.inr (.inr (.inl hy))))
        · exact .inr (.inr (.inr (.inr (.inr (.inr hy)))))
        · exact .inr (.inl hy)
        · exact .inr (.inr (.inr (.inr (.inr (.inl hy)))))
        · exact .inr (.inr (.inr (.inl hy)))
      rcases hy' with rfl | rfl | rfl | hy | hy | hy | hy
      · exact .inr ⟨hm2, hmZ⟩
      · exact .inr ⟨e4, e5⟩
      · exact .inr ⟨f4, hnZ⟩
      · exact .inl (fa y hy)
      · exact .inl (fs y hy)
      · exact fitC y (inB1 y hy)
      · exact fitC y (inB2 y hy)
    · rw [s2]
      show A.ht + 2 = max (plug (Z3 ++ [⟨n, 0, true, kn, vn, sn⟩]) .nil).ht A.ht + 1
      omega
    · show (sn.toL ++ (kn, vn) :: B2.toL) ++ (km, vm) :: (B1.toL ++ (k, v) :: A.toL) = (sn.toL ++ (kn, vn) :: (B2.toL ++ (km, vm) :: B1.toL)) ++ (k, v) :: A.toL
      simp
end
end Go.Proofs.Ytdamanckgmkbiaa.av

/-
  An AVL tree's insert: its end.
-/
import Derived.Test.YtdamanckgmkbiaaAvBal
import Derived.Test.YtdamanckgmkbiaaAvAbs
import Derived.Deep.LoopGhost
namespace Go.Proofs.Ytdamanckgmkbiaa.av
open Go.RowKit Go.Proofs.Ytdamanckgmkbiaa.base Go.Proofs.Ytdamanckgmkbiaa.heap Go.Proofs.Ytdamanckgmkbiaa.rows
open Tre
set_option linter.unusedVariables false
theorem lr_app (a b : List Fr) : lefts (a ++ b) = lefts b ++ lefts a ∧ rights (a ++ b) = rights a ++ rights b := by
  induction a with
  | nil => exact ⟨by simp [lefts], by simp [rights]⟩
  | cons f a ih =>
    refine ⟨?_, ?_⟩
    · show lefts (a ++ b) ++ _ = lefts b ++ (lefts a ++ _)
      rw [ih.1, List.append_assoc]
    · show _ ++ rights (a ++ b) = (_ ++ rights a) ++ rights b
      rw [ih.2, List.append_assoc]
theorem lr_one (f : Fr) (z : List Fr) : lefts (f.heavy :: z) = lefts (f :: z) ∧ rights (f.heavy :: z) = rights (f :: z) := by
  obtain ⟨p, b, d, k, v, s⟩ := f
  cases d <;> exact ⟨rfl, rfl⟩
/-- the tree that comes out, plainly -/
def Good (x u : Int) (T T' : Tre) : Prop := T'.Bal ∧ T'.Ord ∧ (∀ y, y ∈ T'.toL ↔ y = (x, u) ∨ (y.1 ≠ x ∧ y ∈ T.toL)) ∧ T'.size = T.size + 1
theorem end_plain {x u : Int} {q : Nat} {T S : Tre} {F Z2 Z1 : List Fr} {fs : Fr} (hF : F = Z2 ++ fs :: Z1) (hway : Way x F) (hbal : (plug F .nil).Bal) (htoL : (plug F .nil).toL = T.toL) (hord : T.Ord) (hS : S.Bal) (hh : S.ht = (fs.put (plug Z2 .nil)).ht ∨ Z1 = [])
    (ht : S.toL = (fs.heavy.put (plug (heavies Z2) (.nd q 0 .nil x u .nil))).toL) : Good x u T (plug Z1 S) := by
  have hB : (plug Z1 S).Bal := by
    rcases hh with hh | rfl
    · refine plug_bal Z1 (t := fs.put (plug Z2 .nil)) hh.symm hS ?_
      rw [← plug_split, ← hF]
      exact hbal
    · exact hS
  have e1 : (plug Z1 S).toL = lefts F ++ (x, u) :: rights F := by
    have h1 : (plug Z1 S).toL = (plug (heavies Z2 ++ fs.heavy :: Z1) (.nd q 0 .nil x u .nil)).toL := by
      rw [plug_split, plug_toL, plug_toL, ht]
    rw [h1, plug_toL, hF, (lr_app _ _).1, (lr_app _ _).2, (lr_app _ _).1, (lr_app _ _).2, (lr_one _ _).1, (lr_one _ _).2, (lefts_heavy _).1, (lefts_heavy _).2]
    show _ ++ [(x, u)] ++ _ = _
    simp
  have ho : (plug F .nil).Ord := by
    unfold Tre.Ord
    rw [htoL]
    exact hord
  obtain ⟨o1, o2, o3⟩ := ord_new hway ho e1
  refine ⟨hB, o1, fun y => ?_, ?_⟩
  · rw [o2, ← htoL]
    constructor
    · rintro (h | h)
      · exact .inl h
      · exact .inr ⟨o3 y h, h⟩
    · rintro (h | ⟨_, h⟩)
      · exact .inl h
      · exact .inr h
  · rw [size_len, size_len, e1, ← htoL, plug_toL]
    simp [toL]
    omega
theorem even_ok {fs : Fr} {Z2 : List Fr} (q : Nat) (x u : Int) (hb : (fs.put (plug Z2 .nil)).Bal) (h0 : ∀ f ∈ Z2, f.b = 0) (h1 : -1 ≤ fs.heavy.b ∧ fs.heavy.b ≤ 1) :
    (fs.heavy.put (plug (heavies Z2) (.nd q 0 .nil x u .nil))).Bal ∧ (fs.b ≠ 0 → (fs.heavy.put (plug (heavies Z2) (.nd q 0 .nil x u .nil))).ht = (fs.put (plug Z2 .nil)).ht) := by
  obtain ⟨g1, g2⟩ := grow_even Z2 q x u h0 (put_sub hb)
  obtain ⟨p, b, d, k, v, s⟩ := fs
  generalize plug (heavies Z2) (.nd q 0 .nil x u .nil) = U at g1 g2 ⊢
  generalize plug Z2 .nil = t at g2 hb ⊢
  cases d
  · obtain ⟨b1, b2, b3, b4, b5⟩ : b = (s.ht : Int) - (t.ht : Int) ∧ -1 ≤ b ∧ b ≤ 1 ∧ t.Bal ∧ s.Bal := hb
    obtain ⟨c1, c2⟩ : -1 ≤ b - 1 ∧ b - 1 ≤ 1 := h1
    refine ⟨⟨?_, c1, c2, g1, b5⟩, fun hb0 => ?_⟩
    · show b - 1 = (s.ht : Int) - (U.ht : Int)
      omega
    · have hb0' : b ≠ 0 := hb0
      show max U.ht s.ht + 1 = max t.ht s.ht + 1
      omega
  · obtain ⟨b1, b2, b3, b4, b5⟩ : b = (t.ht : Int) - (s.ht : Int) ∧ -1 ≤ b ∧ b ≤ 1 ∧ s.Bal ∧ t.Bal := hb
    obtain ⟨c1, c2⟩ : -1 ≤ b + 1 ∧ b + 1 ≤ 1 := h1
    refine ⟨⟨?_, c1, c2, b4, g1⟩, fun hb0 => ?_⟩
    · show b + 1 = (U.ht : Int) - (s.ht : Int)
      omega
    · have hb0' : b ≠ 0 := hb0
      show max s.ht U.ht + 1 = max s.ht t.ht + 1
      omega
/-- the next node of those that wait -/
def nx (q : Nat) : List Fr → Nat
  | [] => q
  | f :: _ => f.p
theorem tip_rev (q : Nat) (V : List Fr) : tip V.reverse (some q) = some (nx q V) := by
  cases V with
  | nil => rfl
  | cons f V => rw [List.reverse_cons, tip_app]; rfl
theorem tip_mem : ∀ {z : List Fr} {f : Fr} {c : Option Nat}, ∃ h ∈ f :: z, tip (f :: z) c = some h.p
  | [], f, c => ⟨f, List.mem_cons_self .., rfl⟩
  | k :: z, f, c => by
    obtain ⟨h, hm, e⟩ := @tip_mem z k (some f.p)
    exact ⟨h, List.mem_cons_of_mem _ hm, e⟩
section
variable {g dm p0 q : Nat} {x u : Int} {T : Tre} {w w3 wr w' : World}
theorem Up.frame {V R : List Fr} {f : Fr} (h : Up g dm p0 x u T w3 wr (V.reverse ++ f :: R) q) : Nd wr f.p f.b (if f.right then ad f.sib.ptr else at0 (nx q V)) (if f.right then at0 (nx q V) else ad f.sib.ptr) f.k f.v := by
  obtain ⟨_, z2, _⟩ := ZM.app.1 h.zm
  rw [tip_rev] at z2
  have h1 := z2.1
  obtain ⟨p, b, d, k, v, s⟩ := f
  cases d
  · exact h1
  · exact h1
theorem Up.rt {Z2 Z1 : List Fr} {f : Fr} (h : Up g dm p0 x u T w3 wr (heavies Z2 ++ f :: Z1) q) : Rt g dm p0 T w3 wr Z1 (some f.p) (f.put (plug (heavies Z2) (.nd q 0 .nil x u .nil))) := by
  obtain ⟨li, lf⟩ := leaf_in h
  have e : heavies Z2 ++ f :: Z1 = (heavies Z2 ++ [f]) ++ Z1 := by simp
  have hz := h.zm
  rw [e] at hz lf
  obtain ⟨c1, c2⟩ := zm_sub (t := .nd q 0 .nil x u .nil) hz li lf
  have e2 : plug (heavies Z2 ++ [f]) (.nd q 0 .nil x u .nil) = f.put (plug (heavies Z2) (.nd q 0 .nil x u .nil)) := by rw [plug_app]; rfl
  rw [e2] at c1 c2
  obtain ⟨_, z2, _⟩ := ZM.app.1 h.zm
  exact ⟨z2.2.2.2.2.2, c1, c2, h.ob, h.dy, h.on, fun y hy => by rw [put_ptr] at hy; cases hy; exact z2.2.2.2.1⟩
theorem Rt.root {S : Tre} {c : Option Nat} {s : Nat} (h : Rt g dm p0 T w3 wr [] c S) (hB : Beg g dm p0 T w w3) (hs : S.ptr = some s) (hG : Good x u T S) (hno : T.look x = none) : InsP x u g p0 T w (.returned .nilIface) (wr.setCell ⟨g, 0, none⟩ (.pointer (at0 s))) := by
  have hO : Only (fun y => y = g) wr (wr.setCell ⟨g, 0, none⟩ (.pointer (at0 s))) := only2 (Only.refl _ wr) rfl
  have hg : ¬ S.blk g := fun e => (h.fit g e).elim (fun e => e.2.2.1 rfl) (fun e => hB.mine.1 e.1)
  obtain ⟨g1, g2, g3, g4⟩ := hG
  refine ⟨by rw [hno]; rfl, S, 0, none, none, ?_, h.si.keep hO (fun y hy e => hg (e ▸ hy)), hg, g1, g2, g3, hB.only (h.on.trans hO (fun y _ e => .inr e)), fun y hy => ?_⟩
  · rw [hs, g4]
    exact h.ob.setr (at0 s)
  · have hd := hB.ds
    have hl := hB.dl
    rcases h.top y hy with e | e
    · exact .inl e
    · exact .inr (by omega)
theorem Rt.hang {S : Tre} {c : Option Nat} {s : Nat} {f : Fr} {z : List Fr} (h : Rt g dm p0 T w3 wr (f :: z) c S) (hB : Beg g dm p0 T w w3) (hs : S.ptr = some s) (hG : Good x u T (plug (f :: z) S)) (hno : T.look x = none) (htop : ∀ c, tip (f :: z) c = some p0) :
    InsP x u g p0 T w (.returned .nilIface) (wr.setCell ⟨f.p, if f.right then 2 else 1, none⟩ (.pointer (at0 s))) := by
  have hmf : Mine w3.heap.size p0 f.p := h.zm.mine f (List.mem_cons_self ..)
  have hO : Only (fun y => y = f.p) wr (wr.setCell ⟨f.p, if f.right then 2 else 1, none⟩ (.pointer (at0 s))) := only2 (Only.refl _ wr) rfl
  have hnf : ¬ S.blk f.p := fun e => by
    rcases h.fit _ e with e | ⟨_, e⟩
    · exact not_kept hmf e
    · exact e f (List.mem_cons_self ..) rfl
  have hz := h.zm.hang (some s)
  obtain ⟨i1, i2⟩ := zm_plug (t := S) (by rw [hs]; exact hz) (h.si.keep hO (fun y hy e => hnf (e ▸ hy))) h.fit
  have hptr : (plug (f :: z) S).ptr = some p0 := (plug_ptr _ _).trans (htop _)
  obtain ⟨g1, g2, g3, g4⟩ := hG
  refine ⟨by rw [hno]; rfl, plug (f :: z) S, 0, none, none, ?_, i1, fun e => (i2 g e).elim (fun e => e.2.2.1 rfl) hB.mine.1, g1, g2, g3, hB.only (h.on.trans hO (fun y _ e => .inl (e ▸ hmf))), fun y hy => .inl ?_⟩
  · rw [hptr, g4]
    exact h.ob.off (fun e => hB.mine.1 (e ▸ hmf))
  · rw [hptr] at hy
    exact (Option.some.inj hy).symm
theorem bal_any {Z2 Z1 : List Fr} {fs : Fr} (h : Up g dm p0 x u T w3 wr (heavies Z2 ++ fs.heavy :: Z1) q) (hB : Beg g dm p0 T w w3) (hZ : ∀ f ∈ Z2, f.b = 0) (hbal : (plug (Z2 ++ fs :: Z1) .nil).Bal) (hb : fs.b = if fs.right then 1 else -1) :
    Calls Try.prog 41 #[.pointer (at0 fs.p), .int .i64 (if fs.right then 1 else 0)] wr (BalP g dm p0 T w3 Z1 (some fs.p) (fs.heavy.put (plug (heavies Z2) (.nd q 0 .nil x u .nil))) (fs.put (plug Z2 .nil)).ht) := by
  obtain ⟨p, b, d, k, v, s⟩ := fs
  cases d with
  | true =>
    obtain rfl : b = 1 := hb
    exact bal_right h hB hZ hbal
  | false =>
    obtain rfl : b = -1 := hb
    exact bal_left h hB hZ hbal
end
theorem ZM.liv {B p0 g dm : Nat} {w : World} : ∀ {z : List Fr} {c : Option Nat}, ZM B p0 g dm w z c → ∀ f ∈ z, Liv w f.p
  | [], _, _, f, hf => by cases hf
  | f :: z, c, h, f', hf => by
    rcases List.mem_cons.1 hf with rfl | hf
    · exact Nd.liv h.1
    · exact ZM.liv h.2.2.2.2.2 f' hf
theorem info_N : ∃ i, Try.prog.info? 80 = some i ∧ i.size ≠ 0 := by
  have h : (Try.prog.info? 80).map (fun i => i.size) = some 4 := by kernel_rfl
  cases hc : Try.prog.info? 80 with
  | none => rw [hc] at h; cases h
  | some i =>
    rw [hc] at h
    have h2 : i.size = 4 := by simpa using h
    exact ⟨i, rfl, by omega⟩
theorem eqIn {w : World} {u x : Nat} (hu : Liv w u) (hx : Liv w x) (d : Nat) : (Op.equalIn (d + 1) 76 (.pointer (at0 u)) (.pointer (at0 x))).run Try.prog w = .ok (u == x) w := by
  obtain ⟨i, hi, hsz⟩ := info_N
  by_cases e : u = x
  · subst e
    rw [beq_self_eq_true]
    simp [Op.equalIn, run_underlying Try.underlying76, sizeOf, typeInfo, hi, run_sameAddr_same]
  · obtain ⟨c1, t1, h1⟩ := hu
    obtain ⟨c2, t2, h2⟩ := hx
    rw [show (u == x) = false by simpa using e]
    have hne : (⟨u, 0, none⟩ : Addr) ≠ ⟨x, 0, none⟩ := fun h => e (by cases h; rfl)
    simp [Op.equalIn, run_underlying Try.underlying76, sizeOf, typeInfo, hi, hsz, run_sameAddr_other w hne h1 h2]
theorem neq_pp {w : World} {u x : Nat} (hu : Liv w u) (hx : Liv w x) : (binOp .neq 76 (.pointer (at0 u)) (.pointer (at0 x))).run Try.prog w = .ok (.bool (!(u == x))) w := by
  simp only [binOp]
  simp [Op.equal, Op.maxDepth, eqIn hu hx 9999]
theorem eql_pp {w : World} {u x : Nat} (hu : Liv w u) (hx : Liv w x) : (binOp .eql 76 (.pointer (at0 u)) (.pointer (at0 x))).run Try.prog w = .ok (.bool (u == x)) w := by
  simp only [binOp]
  simp [Op.equal, Op.maxDepth, eqIn hu hx 9999]
theorem eql_op {w : World} {x : Nat} {c : Option Nat} (hu : ∀ y, c = some y → Liv w y ∧ y ≠ x) (hx : Liv w x) : (binOp .eql 76 (.pointer (ad c)) (.pointer (at0 x))).run Try.prog w = .ok (.bool false) w := by
  cases c with
  | none =>
    have h : ∀ d : Nat, (Op.equalIn (d + 1) 76 (.pointer none) (.pointer (at0 x))).run Try.prog w = .ok false w := fun d => by
      simp [Op.equalIn, run_underlying Try.underlying76]
    simp only [binOp]
    simp [ad, Op.equal, Op.maxDepth, h 9999]
  | some y =>
    obtain ⟨h1, h2⟩ := hu y rfl
    have := eql_pp h1 hx
    rw [show (y == x) = false by simpa using h2] at this
    exact this
end Go.Proofs.Ytdamanckgmkbiaa.av

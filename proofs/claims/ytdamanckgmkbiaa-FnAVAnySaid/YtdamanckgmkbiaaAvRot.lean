/-
  An AVL tree's nodes in memory: double rotations, balances.
-/
import Derived.Test.YtdamanckgmkbiaaAvMem
import Derived.Test.YtdamanckgmkbiaaAvPlain
import Derived.WalkSpells
import Derived.BigQuiet
import Derived.RegionTactic
import Derived.Deep.QuietTactic
import Derived.LaidEqlPtr
import Derived.Test.YtdamanckgmkbiaaApp
import Derived.StillTailTactics
import Derived.Deep.Cut
import Derived.Deep.RegionLaw
namespace Go.Proofs.Ytdamanckgmkbiaa.av
open Go.RowKit Go.Proofs.Ytdamanckgmkbiaa.base Go.Proofs.Ytdamanckgmkbiaa.heap Go.Proofs.Ytdamanckgmkbiaa.rows
set_option linter.unusedVariables false
/-- said of what turns three nodes -/
def DrP (p n m : Nat) (N : World → Prop) (w : World) (e : Ending) (w' : World) : Prop := e = .returned (.pointer (at0 m)) ∧ N w' ∧ Only (fun x => x = p ∨ x = n ∨ x = m) w w' ∧ w'.heap.size = w.heap.size
def AjP (p n m : Nat) (N : World → Prop) (w : World) (e : Ending) (w' : World) : Prop := e = .returned (.tuple #[]) ∧ N w' ∧ Only (fun x => x = p ∨ x = n ∨ x = m) w w' ∧ w'.heap.size = w.heap.size
set_option maxRecDepth 100000 in
theorem drot0 {w : World} {p n m : Nat} {b bn bm k v kn vn km vm : Int} {A B1 B2 C : Option Addr} (h : Nd w p b A (at0 n) k v) (g : Nd w n bn (at0 m) C kn vn) (f : Nd w m bm B1 B2 km vm) (h1 : p ≠ n) (h2 : p ≠ m) (h3 : n ≠ m) :
    Calls Try.prog 49 #[.pointer (at0 p), .int .i64 0] w (DrP p n m (fun w' => Nd w' p b A B1 k v ∧ Nd w' n bn B2 C kn vn ∧ Nd w' m bm (at0 p) (at0 n) km vm) w) := by
  have O := opp0
  have c1 := h.rc
  have lp := h.lt
  have HR : Hid (∀ wx, Same w wx → Calls Try.prog 46 #[.pointer (at0 n), .int .i64 1] wx (RotP n m (fun w' => Nd w' n bn B2 C kn vn ∧ Nd w' m bm B1 (at0 n) km vm) wx)) := Lib.hid (fun wx hx => rot1 (g.still hx) (f.still hx) h3)
  have HJ : Hid (∀ wx w1, Same w wx → Only (fun x => x = n ∨ x = m) wx w1 → Nd w1 p b A (at0 n) k v ∧ Only (fun x => x = n ∨ x = m) w w1) := Lib.hid (fun wx w1 hx h1' => ⟨(h.still hx).keep h1' (fun e => e.elim h1 h2), (hx.mono (fun _ _ e => e.elim)).trans h1' (fun _ _ e => e)⟩)
  have HS : Hid (∀ w1 w2 : World, w2.heap.size = w1.heap.size → w1.heap.size = w.heap.size → w2.heap.size = w.heap.size) := Lib.hid (fun _ _ a b => a.trans b)
  have HN : Hid (p ≠ n ∧ p ≠ m ∧ n ≠ m) := Lib.hid ⟨h1, h2, h3⟩
  clear h g f h1 h2 h3
  go_enter Try.func49, Try.ntmps49
  go_upto_region 2 with (first | (go_at_call 47; refine (O _).mono ?_; rintro e w' ⟨rfl, rfl⟩) | fail)
  go_region_law (first
    | ((go_simp); go_at_call 46; (with_reducible refine (HR.out _ (Only.refl _ _).drew).mono ?_); rintro e w1 ⟨rfl, hN, hO, hz⟩; have HM : Hid (Nd w1 n bn B2 C kn vn ∧ Nd w1 m bm B1 (at0 n) km vm ∧ Nd w1 p b A (at0 n) k v ∧ Only (fun x => x = n ∨ x = m) w w1 ∧ w1.heap.size = w.heap.size) := Lib.hid ⟨hN.1, hN.2, (HJ.out _ _ (Only.refl _ _).drew hO).1, (HJ.out _ _ (Only.refl _ _).drew hO).2, hz⟩; have d1 := HM.out.2.2.1.rc; have f1 := HM.out.2.2.1.fr; have l1 := HM.out.2.2.1.lt; clear hN hO hz)
    | fail)
  all_goals
    clear HJ HR O c1 lp
    obtain ⟨w2, hw2⟩ : ∃ w2, w1.setCell ⟨p, 2, none⟩ (.pointer (at0 m)) = w2 := ⟨_, rfl⟩
    have HM2 : Hid (Nd w2 n bn B2 C kn vn ∧ Nd w2 m bm B1 (at0 n) km vm ∧ Nd w2 p b A (at0 m) k v ∧ Only (fun x => x = p ∨ x = n ∨ x = m) w w2 ∧ w2.heap.size = w.heap.size) := Lib.hid (by
      rw [← hw2]
      obtain ⟨a1, a2, a3, a4, a5⟩ := HM.out
      exact ⟨a1.off (fun e => HN.out.1 e.symm), a2.off (fun e => HN.out.2.1 e.symm), a3.set1 _, only2 (a4.mono (fun _ _ e => .inr e)) (.inl rfl), (set_size _ _ _).trans a5⟩)
    have HR2 := Lib.hid (rot0 HM2.out.2.2.1 HM2.out.2.1 HN.out.2.1)
    rw [hw2]
    clear hw2 HM d1 f1 l1
    go_wp2_with (first | (go_at_call 46; refine HR2.out.mono ?_; rintro e w3 ⟨rfl, hN3, hO3, hz3⟩; have HE : Hid ((Nd w3 p b A B1 k v ∧ Nd w3 n bn B2 C kn vn ∧ Nd w3 m bm (at0 p) (at0 n) km vm) ∧ Only (fun x => x = p ∨ x = n ∨ x = m) w w3 ∧ w3.heap.size = w.heap.size) := Lib.hid ⟨⟨hN3.1, HM2.out.1.keep hO3 (fun e => e.elim (fun e => HN.out.1 e.symm) HN.out.2.2), hN3.2⟩, HM2.out.2.2.2.1.trans hO3 (fun _ _ e => e.elim .inl (fun e => .inr (.inr e))), hz3.trans HM2.out.2.2.2.2⟩; clear hN3 hO3 hz3) | fail)
    go_ret
    exact ⟨rfl, HE.out.1, HE.out.2.1, HE.out.2.2⟩
set_option maxRecDepth 100000 in
theorem drot1 {w : World} {p n m : Nat} {b bn bm k v kn vn km vm : Int} {A B1 B2 C : Option Addr} (h : Nd w p b (at0 n) A k v) (g : Nd w n bn C (at0 m) kn vn) (f : Nd w m bm B2 B1 km vm) (h1 : p ≠ n) (h2 : p ≠ m) (h3 : n ≠ m) :
    Calls Try.prog 49 #[.pointer (at0 p), .int .i64 1] w (DrP p n m (fun w' => Nd w' p b B1 A k v ∧ Nd w' n bn C B2 kn vn ∧ Nd w' m bm (at0 n) (at0 p) km vm) w) := by
  have O := opp1
  have c1 := h.lc
  have lp := h.lt
  have HR : Hid (∀ wx, Same w wx → Calls Try.prog 46 #[.pointer (at0 n), .int .i64 0] wx (RotP n m (fun w' => Nd w' n bn C B2 kn vn ∧ Nd w' m bm (at0 n) B1 km vm) wx)) := Lib.hid (fun wx hx => rot0 (g.still hx) (f.still hx) h3)
  have HJ : Hid (∀ wx w1, Same w wx → Only (fun x => x = n ∨ x = m) wx w1 → Nd w1 p b (at0 n) A k v ∧ Only (fun x => x = n ∨ x = m) w w1) := Lib.hid (fun wx w1 hx h1' => ⟨(h.still hx).keep h1' (fun e => e.elim h1 h2), (hx.mono (fun _ _ e => e.elim)).trans h1' (fun _ _ e => e)⟩)
  have HS : Hid (∀ w1 w2 : World, w2.heap.size = w1.heap.size → w1.heap.size = w.heap.size → w2.heap.size = w.heap.size) := Lib.hid (fun _ _ a b => a.trans b)
  have HN : Hid (p ≠ n ∧ p ≠ m ∧ n ≠ m) := Lib.hid ⟨h1, h2, h3⟩
  clear h g f h1 h2 h3
  go_enter Try.func49, Try.ntmps49
  go_upto_region 2 with (first | (go_at_call 47; refine (O _).mono ?_; rintro e w' ⟨rfl, rfl⟩) | fail)
  go_region_law (first
    | ((go_simp); go_at_call 46; (with_reducible refine (HR.out _ (Only.refl _ _).drew).mono ?_); rintro e w1 ⟨rfl, hN, hO, hz⟩; have HM : Hid (Nd w1 n bn C B2 kn vn ∧ Nd w1 m bm (at0 n) B1 km vm ∧ Nd w1 p b (at0 n) A k v ∧ Only (fun x => x = n ∨ x = m) w w1 ∧ w1.heap.size = w.heap.size) := Lib.hid ⟨hN.1, hN.2, (HJ.out _ _ (Only.refl _ _).drew hO).1, (HJ.out _ _ (Only.refl _ _).drew hO).2, hz⟩; have d1 := HM.out.2.2.1.lc; have f1 := HM.out.2.2.1.fr; have l1 := HM.out.2.2.1.lt; clear hN hO hz)
    | fail)
  all_goals
    clear HJ HR O c1 lp
    obtain ⟨w2, hw2⟩ : ∃ w2, w1.setCell ⟨p, 1, none⟩ (.pointer (at0 m)) = w2 := ⟨_, rfl⟩
    have HM2 : Hid (Nd w2 n bn C B2 kn vn ∧ Nd w2 m bm (at0 n) B1 km vm ∧ Nd w2 p b (at0 m) A k v ∧ Only (fun x => x = p ∨ x = n ∨ x = m) w w2 ∧ w2.heap.size = w.heap.size) := Lib.hid (by
      rw [← hw2]
      obtain ⟨a1, a2, a3, a4, a5⟩ := HM.out
      exact ⟨a1.off (fun e => HN.out.1 e.symm), a2.off (fun e => HN.out.2.1 e.symm), a3.set0 _, only2 (a4.mono (fun _ _ e => .inr e)) (.inl rfl), (set_size _ _ _).trans a5⟩)
    have HR2 := Lib.hid (rot1 HM2.out.2.2.1 HM2.out.2.1 HN.out.2.1)
    rw [hw2]
    clear hw2 HM d1 f1 l1
    go_wp2_with (first | (go_at_call 46; refine HR2.out.mono ?_; rintro e w3 ⟨rfl, hN3, hO3, hz3⟩; have HE : Hid ((Nd w3 p b B1 A k v ∧ Nd w3 n bn C B2 kn vn ∧ Nd w3 m bm (at0 n) (at0 p) km vm) ∧ Only (fun x => x = p ∨ x = n ∨ x = m) w w3 ∧ w3.heap.size = w.heap.size) := Lib.hid ⟨⟨hN3.1, HM2.out.1.keep hO3 (fun e => e.elim (fun e => HN.out.1 e.symm) HN.out.2.2), hN3.2⟩, HM2.out.2.2.2.1.trans hO3 (fun _ _ e => e.elim .inl (fun e => .inr (.inr e))), hz3.trans HM2.out.2.2.2.2⟩; clear hN3 hO3 hz3) | fail)
    go_ret
    exact ⟨rfl, HE.out.1, HE.out.2.1, HE.out.2.2⟩
end Go.Proofs.Ytdamanckgmkbiaa.av

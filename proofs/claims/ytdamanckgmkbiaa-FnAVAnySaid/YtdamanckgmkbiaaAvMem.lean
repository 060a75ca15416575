/-
  An AVL tree's nodes in memory; its small functions.
-/
import Derived.Test.YtdamanckgmkbiaaAvPlain
import Derived.Test.YtdamanckgmkbiaaRw
import Derived.WalkSpells
import Derived.BigQuiet
import Derived.RegionTactic
import Derived.Deep.QuietTactic
import Derived.LaidEqlPtr
namespace Go.Proofs.Ytdamanckgmkbiaa.av
open Go.RowKit Go.Proofs.Ytdamanckgmkbiaa.base Go.Proofs.Ytdamanckgmkbiaa.heap Go.Proofs.Ytdamanckgmkbiaa.rows
set_option linter.unusedVariables false

/-- a block's address -/
abbrev at0 (b : Nat) : Option Addr := some ⟨b, 0, none⟩
def ad (c : Option Nat) : Option Addr := c.map (fun b => ⟨b, 0, none⟩)
/-- an entry -/
abbrev ent (k v : Int) : Value := .iface 73 (.agg #[.int .i64 k, .int .i64 v])
/-- a node -/
def Nd (w : World) (p : Nat) (b : Int) (c0 c1 : Option Addr) (k v : Int) : Prop := w.heap[p]? = some (.cells #[.int .i8 b, .pointer c0, .pointer c1, ent k v] 80 (0, 0))
section
variable {w w' : World} {p : Nat} {b : Int} {c0 c1 : Option Addr} {k v : Int}
theorem Nd.keep {S : Nat → Prop} (h : Nd w p b c0 c1 k v) (ho : Only S w w') (hn : ¬ S p) : Nd w' p b c0 c1 k v := ho.obj h hn
theorem Nd.still (h : Nd w p b c0 c1 k v) (ho : Same w w') : Nd w' p b c0 c1 k v := ho.obj h id
theorem Nd.lt (h : Nd w p b c0 c1 k v) : p < w.heap.size := lt_of_heap h
theorem Nd.bal (h : Nd w p b c0 c1 k v) : w.cell? ⟨p, 0, none⟩ = some (.int .i8 b) := block_cell h rfl
theorem Nd.lc (h : Nd w p b c0 c1 k v) : w.cell? ⟨p, 1, none⟩ = some (.pointer c0) := block_cell h rfl
theorem Nd.rc (h : Nd w p b c0 c1 k v) : w.cell? ⟨p, 2, none⟩ = some (.pointer c1) := block_cell h rfl
theorem Nd.en (h : Nd w p b c0 c1 k v) : w.cell? ⟨p, 3, none⟩ = some (ent k v) := block_cell h rfl
theorem Nd.fr (h : Nd w p b c0 c1 k v) : ∀ i, w.frozen? ⟨p, i, none⟩ = false := fun i => block_free h
theorem Nd.setb (h : Nd w p b c0 c1 k v) (b' : Int) : Nd (w.setCell ⟨p, 0, none⟩ (.int .i8 b')) p b' c0 c1 k v := setCell_heap h 0 _
theorem Nd.set0 (h : Nd w p b c0 c1 k v) (c : Option Addr) : Nd (w.setCell ⟨p, 1, none⟩ (.pointer c)) p b c c1 k v := setCell_heap h 1 _
theorem Nd.set1 (h : Nd w p b c0 c1 k v) (c : Option Addr) : Nd (w.setCell ⟨p, 2, none⟩ (.pointer c)) p b c0 c k v := setCell_heap h 2 _
theorem Nd.sete (h : Nd w p b c0 c1 k v) (u : Int) : Nd (w.setCell ⟨p, 3, none⟩ (ent k u)) p b c0 c1 k u := setCell_heap h 3 _
end
/-- a tree in memory -/
def InM (w : World) : Tre → Prop
  | .nil => True
  | .nd p b l k v r => Nd w p b (ad l.ptr) (ad r.ptr) k v ∧ InM w l ∧ InM w r ∧ ¬ l.blk p ∧ ¬ r.blk p
theorem InM.keep {w w' : World} {S : Nat → Prop} (ho : Only S w w') : ∀ {t : Tre}, InM w t → (∀ x, t.blk x → ¬ S x) → InM w' t
  | .nil, _, _ => trivial
  | .nd p b l k v r, h, hn => by
    obtain ⟨h1, h2, h3, h4, h5⟩ := h
    exact ⟨h1.keep ho (hn p (.inl rfl)), InM.keep ho h2 (fun x hx => hn x (.inr (.inl hx))), InM.keep ho h3 (fun x hx => hn x (.inr (.inr hx))), h4, h5⟩
theorem InM.lt {w : World} : ∀ {t : Tre}, InM w t → ∀ x, t.blk x → x < w.heap.size
  | .nil, _, _, hx => hx.elim
  | .nd p b l k v r, h, x, hx => by
    obtain ⟨h1, h2, h3, h4, h5⟩ := h
    rcases hx with rfl | hx | hx
    · exact h1.lt
    · exact InM.lt h2 x hx
    · exact InM.lt h3 x hx
/-- said of what looks only -/
def SayP (v : Value) (w : World) (e : Ending) (w' : World) : Prop := e = .returned v ∧ Same w w'
set_option maxRecDepth 100000 in
theorem opp0 (w : World) : Calls Try.prog 47 #[.int .i64 0] w fun e w' => e = .returned (.int .i64 1) ∧ w = w' := by
  go_enter Try.func47, Try.ntmps47
  go_wp2_with fail
  go_ret
  exact ⟨rfl, rfl⟩
set_option maxRecDepth 100000 in
theorem opp1 (w : World) : Calls Try.prog 47 #[.int .i64 1] w fun e w' => e = .returned (.int .i64 0) ∧ w = w' := by
  go_enter Try.func47, Try.ntmps47
  go_wp2_with fail
  go_ret
  exact ⟨rfl, rfl⟩
set_option maxRecDepth 100000 in
theorem fromB (c : Bool) (w : World) : Calls Try.prog 42 #[.bool c] w fun e w' => e = .returned (.int .i64 (if c then 1 else 0)) ∧ w = w' := by
  cases c with
  | false =>
    go_enter Try.func42, Try.ntmps42
    go_wp2_with fail
    go_ret
    exact ⟨rfl, rfl⟩
  | true =>
    go_enter Try.func42, Try.ntmps42
    go_wp2_with fail
    go_ret
    exact ⟨rfl, rfl⟩
set_option maxRecDepth 100000 in
theorem normC (i : Int) (w : World) : Calls Try.prog 39 #[.int .i64 i] w fun e w' => e = .returned (.int .i64 (if i < 0 then 1 else if 0 < i then 0 else -1)) ∧ w = w' := by
  by_cases h1 : i < 0
  · rw [if_pos h1]
    go_enter Try.func39, Try.ntmps39
    go_wp2_with fail
    go_ret
    exact ⟨rfl, rfl⟩
  · rw [if_neg h1]
    by_cases h2 : 0 < i
    · rw [if_pos h2]
      go_enter Try.func39, Try.ntmps39
      go_wp2_with fail
      go_ret
      exact ⟨rfl, rfl⟩
    · rw [if_neg h2]
      go_enter Try.func39, Try.ntmps39
      go_wp2_with fail
      go_ret
      exact ⟨rfl, rfl⟩
set_option maxRecDepth 100000 in
theorem newNodeE (k v : Int) (w : World) : Calls Try.prog 37 #[ent k v] w fun e w' => e = .returned (.pointer (at0 w.heap.size)) ∧ Hid (w' = w.alloc (.cells #[.int .i8 0, .pointer none, .pointer none, ent k v] 80)) := by
  go_enter Try.func37, Try.ntmps37
  go_wp2_with fail
  go_ret
  exact ⟨rfl, Lib.hid rfl⟩
set_option maxRecDepth 100000 in
theorem newNodeN (w : World) : Calls Try.prog 37 #[.nilIface] w fun e w' => e = .returned (.pointer (at0 w.heap.size)) ∧ Hid (w' = w.alloc (.cells #[.int .i8 0, .pointer none, .pointer none, .nilIface] 80)) := by
  go_enter Try.func37, Try.ntmps37
  go_wp2_with fail
  go_ret
  exact ⟨rfl, Lib.hid rfl⟩
set_option maxRecDepth 100000 in
theorem copyN {w : World} {p : Nat} {b : Int} {c0 c1 : Option Addr} {k v : Int} (h : Nd w p b c0 c1 k v) : Calls Try.prog 36 #[.pointer (at0 p)] w fun e w' => e = .returned (.pointer (at0 w.heap.size)) ∧ Nd w' w.heap.size b c0 c1 k v ∧ Same w w' ∧ w'.heap.size = w.heap.size + 1 := by
  have h0 := h.bal
  have h1 := h.lc
  have h2 := h.rc
  have h3 := h.en
  have hl := h.lt
  clear h
  go_enter Try.func36, Try.ntmps36
  go_wp2_with fail
  go_region
  go_wp2_with fail
  go_ret
  exact ⟨rfl, heap_alloc_new' w _ _ rfl, ((Only.refl _ w).alloc _).drew, by show (w.alloc _).heap.size = _; simp only [World.alloc, Array.size_push]⟩
theorem Nd.off {w : World} {p q j : Nat} {b : Int} {c0 c1 : Option Addr} {k v : Int} {x : Value} (h : Nd w p b c0 c1 k v) (hq : p ≠ q) : Nd (w.setCell ⟨q, j, none⟩ x) p b c0 c1 k v :=
  h.keep ((Only.refl (fun y => y = q) w).setCell ⟨q, j, none⟩ x (fun _ => rfl)) hq
theorem only2 {w w' : World} {S : Nat → Prop} {q j : Nat} {x : Value} (h : Only S w w') (hq : S q) : Only S w (w'.setCell ⟨q, j, none⟩ x) := h.setCell ⟨q, j, none⟩ x (fun _ => hq)
theorem set_size (w : World) (p : Addr) (x : Value) : (w.setCell p x).heap.size = w.heap.size := by simp [World.setCell]
/-- said of rotate -/
def RotP (p n : Nat) (N : World → Prop) (w : World) (e : Ending) (w' : World) : Prop := e = .returned (.pointer (at0 n)) ∧ N w' ∧ Only (fun x => x = p ∨ x = n) w w' ∧ w'.heap.size = w.heap.size
set_option maxRecDepth 100000 in
theorem rot0 {w : World} {p n : Nat} {b bn k v kn vn : Int} {A B C : Option Addr} (h : Nd w p b A (at0 n) k v) (g : Nd w n bn B C kn vn) (hne : p ≠ n) : Calls Try.prog 46 #[.pointer (at0 p), .int .i64 0] w (RotP p n (fun w' => Nd w' p b A B k v ∧ Nd w' n bn (at0 p) C kn vn) w) := by
  have h2 := h.rc
  have g1 := g.lc
  have f1 := h.fr
  have f2 := g.fr
  have O := opp0
  go_enter Try.func46, Try.ntmps46
  go_wp2_with (first | (go_at_call 47; refine (O _).mono ?_; rintro e w' ⟨rfl, rfl⟩) | fail)
  go_region
  go_wp2_with fail
  go_ret
  exact ⟨rfl, ⟨(h.set1 _).off hne, (g.off (fun e => hne e.symm)).set0 _⟩, (only2 (only2 (Only.refl _ w) (.inl rfl)) (.inr rfl)).drew, (set_size _ _ _).trans (set_size _ _ _)⟩
set_option maxRecDepth 100000 in
theorem rot1 {w : World} {p n : Nat} {b bn k v kn vn : Int} {A B C : Option Addr} (h : Nd w p b (at0 n) A k v) (g : Nd w n bn C B kn vn) (hne : p ≠ n) : Calls Try.prog 46 #[.pointer (at0 p), .int .i64 1] w (RotP p n (fun w' => Nd w' p b B A k v ∧ Nd w' n bn C (at0 p) kn vn) w) := by
  have h2 := h.lc
  have g1 := g.rc
  have f1 := h.fr
  have f2 := g.fr
  have O := opp1
  go_enter Try.func46, Try.ntmps46
  go_wp2_with (first | (go_at_call 47; refine (O _).mono ?_; rintro e w' ⟨rfl, rfl⟩) | fail)
  go_region
  go_wp2_with fail
  go_ret
  exact ⟨rfl, ⟨(h.set0 _).off hne, (g.off (fun e => hne e.symm)).set1 _⟩, (only2 (only2 (Only.refl _ w) (.inl rfl)) (.inr rfl)).drew, (set_size _ _ _).trans (set_size _ _ _)⟩
end Go.Proofs.Ytdamanckgmkbiaa.av

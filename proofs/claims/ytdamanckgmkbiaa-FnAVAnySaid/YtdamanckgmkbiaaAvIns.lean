/-
  An AVL tree's insert: the first steps.
-/
import Derived.Test.YtdamanckgmkbiaaAvZip
import Derived.Deep.DeepCutAuto
import Derived.Deep.CutBlock
namespace Go.Proofs.Ytdamanckgmkbiaa.av
open Go.RowKit Go.Proofs.Ytdamanckgmkbiaa.base Go.Proofs.Ytdamanckgmkbiaa.heap Go.Proofs.Ytdamanckgmkbiaa.rows
set_option linter.unusedVariables false
/-- a tree's object, its cells -/
def Ob (w : World) (g : Nat) (q : Option Addr) (n : Nat) (d : Int) (c0 c1 : Option Addr) : Prop := w.heap[g]? = some (.cells #[.pointer q, .int .u64 (n : Int), .int .i8 d, .pointer c0, .pointer c1, .nilIface] 82 (0, 0))
/-- said of resetDummy -/
def RsP (g : Nat) (q : Option Addr) (n : Nat) (w : World) (e : Ending) (w' : World) : Prop := e = .returned (.tuple #[]) ∧ Ob w' g q n 0 none none ∧ Only (fun x => x = g) w w' ∧ w'.heap.size = w.heap.size
set_option maxRecDepth 100000 in
theorem resetC {w : World} {g n : Nat} {q c0 c1 : Option Addr} {d : Int} (h : Ob w g q n d c0 c1) : Calls Try.prog 38 #[.pointer (at0 g)] w (RsP g q n w) := by
  have e2 : w.cell? ⟨g, 2, none⟩ = some (.int .i8 d) := block_cell h rfl
  have e3 : w.cell? ⟨g, 3, none⟩ = some (.pointer c0) := block_cell h rfl
  have e4 : w.cell? ⟨g, 4, none⟩ = some (.pointer c1) := block_cell h rfl
  have f1 : ∀ i, w.frozen? ⟨g, i, none⟩ = false := fun i => block_free h
  have l1 := lt_of_heap h
  have HH : Hid (Ob w g q n d c0 c1) := Lib.hid h
  clear h
  go_enter Try.func38, Try.ntmps38
  go_wp2_with fail
  go_region
  go_wp2_with fail
  go_end0
  exact ⟨rfl, setCell_heap (setCell_heap (setCell_heap HH.out 3 _) 4 _) 2 _, (only2 (only2 (only2 (Only.refl (fun x => x = g) w) rfl) rfl) rfl).drew, (set_size _ _ _).trans ((set_size _ _ _).trans (set_size _ _ _))⟩
section
variable {w w' : World} {g n : Nat} {q c0 c1 : Option Addr} {d : Int}
theorem Ob.keep {S : Nat → Prop} (h : Ob w g q n d c0 c1) (ho : Only S w w') (hn : ¬ S g) : Ob w' g q n d c0 c1 := ho.obj h hn
theorem Ob.still (h : Ob w g q n d c0 c1) (ho : Same w w') : Ob w' g q n d c0 c1 := ho.obj h id
theorem Ob.root (h : Ob w g q n d c0 c1) : w.cell? ⟨g, 0, none⟩ = some (.pointer q) := block_cell h rfl
theorem Ob.num (h : Ob w g q n d c0 c1) : w.cell? ⟨g, 1, none⟩ = some (.int .u64 (n : Int)) := block_cell h rfl
theorem Ob.fr (h : Ob w g q n d c0 c1) : ∀ i, w.frozen? ⟨g, i, none⟩ = false := fun i => block_free h
theorem Ob.lt (h : Ob w g q n d c0 c1) : g < w.heap.size := lt_of_heap h
theorem Ob.setr (h : Ob w g q n d c0 c1) (q' : Option Addr) : Ob (w.setCell ⟨g, 0, none⟩ (.pointer q')) g q' n d c0 c1 := setCell_heap h 0 _
theorem Ob.setn (h : Ob w g q n d c0 c1) (m : Nat) : Ob (w.setCell ⟨g, 1, none⟩ (.int .u64 (m : Int))) g q m d c0 c1 := setCell_heap h 1 _
theorem Ob.off (h : Ob w g q n d c0 c1) {b j : Nat} {x : Value} (hb : g ≠ b) : Ob (w.setCell ⟨b, j, none⟩ x) g q n d c0 c1 := h.keep ((Only.refl (fun y => y = b) w).setCell ⟨b, j, none⟩ x (fun _ => rfl)) hb
end
/-- said of newNode -/
def NwP (k v : Int) (w : World) (e : Ending) (w' : World) : Prop := e = .returned (.pointer (at0 w.heap.size)) ∧ Nd w' w.heap.size 0 none none k v ∧ Same w w' ∧ w'.heap.size = w.heap.size + 1
theorem newE (k v : Int) (w : World) : Calls Try.prog 37 #[ent k v] w (NwP k v w) := (newNodeE k v w).mono (fun e w' h => by
  obtain ⟨h1, h2⟩ := h
  rw [h2.out]
  exact ⟨h1, heap_alloc_new' w _ _ rfl, (Only.refl _ w).alloc _, by simp only [World.alloc, Array.size_push]⟩)
/-- said of the first insert -/
def FsP (x u : Int) (g n : Nat) (d : Int) (c0 c1 : Option Addr) (w : World) (e : Ending) (w' : World) : Prop := e = .returned .nilIface ∧ ∃ q, w.heap.size ≤ q ∧ Ob w' g (at0 q) (n + 1) d c0 c1 ∧ Nd w' q 0 none none x u ∧ Only (fun y => y = g) w w'
set_option maxRecDepth 100000 in
theorem insNil {w : World} {g n : Nat} {c0 c1 : Option Addr} {d : Int} (h : Ob w g none n d c0 c1) (hn : n < 4611686018427387904) (x u : Int) : Calls Try.prog 34 #[.pointer (at0 g), ent x u] w (FsP x u g n d c0 c1 w) := by
  have e0 := h.root
  have l0 := h.lt
  have HH : Hid (∀ wx, Same w wx → Ob wx g none n d c0 c1) := Lib.hid (fun wx hx => h.still hx)
  have HNN := Lib.hid (fun wx => newE x u wx)
  clear h
  go_enter Try.func34, Try.ntmps34
  go_wp2_with (first | (go_at_call 37; refine (HNN.out _).mono ?_; rintro e w' ⟨rfl, hN, hS, hz⟩; have HN := Lib.hid (And.intro hN hS); have e1 := (HH.out w' hS).num; have f1 := (HH.out w' hS).fr; have l1 := (HH.out w' hS).lt; have e2 := (HH.out w' hS).root; clear hN hS hz) | fail)
  go_ret
  refine ⟨rfl, w.heap.size, Nat.le_refl _, (((HH.out _ HN.out.2).setr _).setn (n + 1)), ?_, only2 (only2 (HN.out.2.mono (fun _ _ f => f.elim)) rfl) rfl⟩
  exact (HN.out.1.off (by omega)).off (by omega)
end Go.Proofs.Ytdamanckgmkbiaa.av

/-
  Rows of values: a list that is read (RL), of elements of one cell each; a list of the call's own (OL); a world whose old blocks are as they were (Same).
-/
import Derived.Test.YtdamanckgmkbiaaHeap
namespace Go.Proofs.Ytdamanckgmkbiaa.rows
open Go.RowKit Go.Proofs.Ytdamanckgmkbiaa.heap
set_option linter.unusedVariables false

/-- nothing that was there has changed -/
abbrev Same (w w' : World) : Prop := Only (fun _ => False) w w'
theorem Same.trans {w w' w'' : World} (h : Same w w') (h' : Same w' w'') : Same w w'' := Only.trans h h' (fun _ _ f => f)

/-- an int -/
abbrev iv (n : Int) : Value := .int .i64 n
/-- a bool -/
abbrev bv (b : Bool) : Value := .bool b
section
variable {α : Type} {f : α → Value} {w w' : World} {a : Option Addr} {n cap : Nat} {l : List α}
/-- a slice whose elements are 'f x', x of the list l -/
def RL (f : α → Value) (w : World) (a : Option Addr) (n cap : Nat) (l : List α) : Prop := Rd 1 w a n cap (l.map f) ∧ l.length = n
/-- such a slice of the call's own -/
def OL (e : Nat) (f : α → Value) (w : World) (a : Option Addr) (n cap : Nat) (l : List α) : Prop := Own e 1 w a n cap (l.map f) ∧ l.length = n
theorem RL.keep {S : Nat → Prop} (h : RL f w a n cap l) (ho : Only S w w') (hn : ∀ k, At a k → ¬ S k) : RL f w' a n cap l := ⟨h.1.keep ho hn, h.2⟩
theorem RL.still (h : RL f w a n cap l) (ho : Same w w') : RL f w' a n cap l := h.keep ho (fun _ _ => id)
theorem RL.nil (f : α → Value) (w : World) : RL f w none 0 0 [] := ⟨Rd.nil w 1, rfl⟩
theorem RL.bound (h : RL f w a n cap l) : n ≤ cap ∧ cap ≤ 9223372036854775807 := h.1.bound
theorem RL.at (h : RL f w a n cap l) (h0 : 0 < n) : ∃ b off, a = some ⟨b, off, none⟩ ∧ b < w.heap.size ∧ ∀ i x, l[i]? = some x → w.cell? ⟨b, off + i, none⟩ = some (f x) := by
  obtain ⟨b, off, ha, hb, hc⟩ := h.1.cells h0
  exact ⟨b, off, ha, hb, fun i x hx => hc i _ (by rw [List.getElem?_map, hx]; rfl)⟩
theorem RL.get (h : RL f w a n cap l) {k : Nat} (hk : k < n) : ∃ x, l[k]? = some x := ⟨l[k]'(by rw [h.2]; exact hk), List.getElem?_eq_getElem _⟩
theorem OL.rl {e : Nat} (h : OL e f w a n cap l) : RL f w a n cap l := ⟨h.1.rd, h.2⟩
theorem OL.keep {e : Nat} {S : Nat → Prop} (h : OL e f w a n cap l) (ho : Only S w w') (hn : ∀ k, At a k → ¬ S k) : OL e f w' a n cap l := ⟨h.1.keep ho hn, h.2⟩
theorem OL.still {e : Nat} (h : OL e f w a n cap l) (ho : Same w w') : OL e f w' a n cap l := h.keep ho (fun _ _ => id)
theorem OL.nil (e : Nat) (f : α → Value) (w : World) : OL e f w none 0 0 [] := ⟨Own.nil e 1 w, rfl⟩
theorem OL.bound {e : Nat} (h : OL e f w a n cap l) : n ≤ cap ∧ cap ≤ 9223372036854775807 := h.1.bound
end

/-- a slice that is new is handed back -/
def NewL {α : Type} (e : Nat) (f : α → Value) (l : List α) (w : World) (en : Ending) (w' : World) : Prop :=
  ∃ a cap, en = .returned (.slice a l.length cap) ∧ OL e f w' a l.length cap l ∧ Same w w' ∧ ∀ k, At a k → w.heap.size ≤ k
/-- a value is handed back, nothing that was there has changed -/
def FV (w : World) (v : Value) (en : Ending) (w' : World) : Prop := en = .returned v ∧ Same w w'
theorem fv {P : Program} {f : FuncId} {args : Array Value} {w0 w : World} {v : Value} (hs : Same w0 w) (h : Calls P f args w (FV w v)) : Calls P f args w (FV w0 v) :=
  h.mono fun e w' ⟨he, hO⟩ => ⟨he, hs.trans hO⟩

theorem take_snoc {α : Type} (l : List α) (k : Nat) (s : α) (h : l[k]? = some s) : l.take (k + 1) = l.take k ++ [s] := by
  rw [List.take_add_one, h]; rfl
theorem new_only {w w' w'' : World} {S : Nat → Prop} (h : Same w w') (h' : Only S w' w'') (hs : ∀ k, S k → w.heap.size ≤ k) : Same w w'' :=
  Only.trans h h' (fun k hk s => absurd (hs k s) (by omega))
theorem heap_still {w w' : World} {b : Nat} {o : Obj} (h : Same w w') (hb : w.heap[b]? = some o) : w'.heap[b]? = some o := h.obj hb id
end Go.Proofs.Ytdamanckgmkbiaa.rows

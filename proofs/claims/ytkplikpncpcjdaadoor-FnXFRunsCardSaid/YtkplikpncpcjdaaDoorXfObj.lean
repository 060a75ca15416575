/-
  An x-fast trie in memory; its small functions.
-/
import Derived.Test.YtkplikpncpcjdaaDoorBase
import Derived.Test.YtkplikpncpcjdaaDoorRw
import Derived.Test.YtkplikpncpcjdaaDoorMapN
import Derived.Test.YtkplikpncpcjdaaDoorXfBits
import Derived.WalkSpells
import Derived.BigQuiet
import Derived.RegionTactic
import Derived.Deep.QuietTactic
import Derived.LaidEqlPtr
namespace Go.Proofs.YtkplikpncpcjdaaDoor.xf
open Go.RowKit Go.Proofs.YtkplikpncpcjdaaDoor.base Go.Proofs.YtkplikpncpcjdaaDoor.heap Go.Proofs.YtkplikpncpcjdaaDoor.rows Go.Proofs.YtkplikpncpcjdaaDoor.mapn
set_option linter.unusedVariables false

/-- a pointer to a block, or nil -/
def op : Option Nat → Value
  | none => .pointer none
  | some b => .pointer (some ⟨b, 0, none⟩)
/-- an entry: a key and a number -/
abbrev item (k : Nat) (v : Int) : Value := .iface 52 (.agg #[.int .u64 (k : Int), .int .i64 v])
/-- a node -/
def Nd (w : World) (b : Nat) (e : Value) (c0 c1 p : Option Nat) : Prop := w.heap[b]? = some (.cells #[e, op c0, op c1, op p] 79 (0, 0))
theorem Nd.keep {w w' : World} {b : Nat} {e : Value} {c0 c1 p : Option Nat} {S : Nat → Prop} (h : Nd w b e c0 c1 p) (ho : Only S w w') (hn : ¬ S b) : Nd w' b e c0 c1 p := ho.obj h hn
theorem Nd.still {w w' : World} {b : Nat} {e : Value} {c0 c1 p : Option Nat} (h : Nd w b e c0 c1 p) (ho : Same w w') : Nd w' b e c0 c1 p := ho.obj h id
theorem Nd.lt {w : World} {b : Nat} {e : Value} {c0 c1 p : Option Nat} (h : Nd w b e c0 c1 p) : b < w.heap.size := lt_of_heap h
theorem Nd.e {w : World} {b : Nat} {e : Value} {c0 c1 p : Option Nat} (h : Nd w b e c0 c1 p) : w.cell? ⟨b, 0, none⟩ = some e := block_cell h rfl
theorem Nd.c0 {w : World} {b : Nat} {e : Value} {c0 c1 p : Option Nat} (h : Nd w b e c0 c1 p) : w.cell? ⟨b, 1, none⟩ = some (op c0) := block_cell h rfl
theorem Nd.c1 {w : World} {b : Nat} {e : Value} {c0 c1 p : Option Nat} (h : Nd w b e c0 c1 p) : w.cell? ⟨b, 2, none⟩ = some (op c1) := block_cell h rfl
theorem Nd.p {w : World} {b : Nat} {e : Value} {c0 c1 p : Option Nat} (h : Nd w b e c0 c1 p) : w.cell? ⟨b, 3, none⟩ = some (op p) := block_cell h rfl
theorem Nd.fr {w : World} {b : Nat} {e : Value} {c0 c1 p : Option Nat} (h : Nd w b e c0 c1 p) : ∀ i, w.frozen? ⟨b, i, none⟩ = false := fun i => block_free h
theorem Nd.set0 {w : World} {b : Nat} {e : Value} {c0 c1 p : Option Nat} (h : Nd w b e c0 c1 p) (c : Option Nat) : Nd (w.setCell ⟨b, 1, none⟩ (op c)) b e c c1 p := setCell_heap h 1 (op c)
theorem Nd.set1 {w : World} {b : Nat} {e : Value} {c0 c1 p : Option Nat} (h : Nd w b e c0 c1 p) (c : Option Nat) : Nd (w.setCell ⟨b, 2, none⟩ (op c)) b e c0 c p := setCell_heap h 2 (op c)
theorem Nd.setE {w : World} {b : Nat} {e : Value} {c0 c1 p : Option Nat} (h : Nd w b e c0 c1 p) (e' : Value) : Nd (w.setCell ⟨b, 0, none⟩ e') b e' c0 c1 p := setCell_heap h 0 e'

set_option maxRecDepth 100000 in
theorem newNode_in  (p : Option Nat) (w : World) : Calls Tryd.prog 35 #[op p, .nilIface] w fun en w' => en = .returned (op (some w.heap.size)) ∧ Hid (w' = w.alloc (.cells #[.nilIface, op none, op none, op p] 79)) := by
  cases p with
  | none =>
    show Calls Tryd.prog 35 #[.pointer none, .nilIface] w _
    go_enter Tryd.func35, Tryd.ntmps35
    go_wp2_with fail
    go_ret
    exact ⟨rfl, Lib.hid rfl⟩
  | some b =>
    show Calls Tryd.prog 35 #[.pointer (some ⟨b, 0, none⟩), .nilIface] w _
    go_enter Tryd.func35, Tryd.ntmps35
    go_wp2_with fail
    go_ret
    exact ⟨rfl, Lib.hid rfl⟩
set_option maxRecDepth 100000 in
theorem newNode_leaf (k : Nat) (v : Int) (p : Option Nat) (w : World) : Calls Tryd.prog 35 #[op p, item k v] w fun en w' => en = .returned (op (some w.heap.size)) ∧ Hid (w' = w.alloc (.cells #[item k v, op none, op none, op p] 79)) := by
  cases p with
  | none =>
    show Calls Tryd.prog 35 #[.pointer none, item k v] w _
    go_enter Tryd.func35, Tryd.ntmps35
    go_wp2_with fail
    go_ret
    exact ⟨rfl, Lib.hid rfl⟩
  | some b =>
    show Calls Tryd.prog 35 #[.pointer (some ⟨b, 0, none⟩), item k v] w _
    go_enter Tryd.func35, Tryd.ntmps35
    go_wp2_with fail
    go_ret
    exact ⟨rfl, Lib.hid rfl⟩
set_option maxRecDepth 100000 in
/-- whether a node has no entry -/
theorem isInternal_nil (w : World) : Calls Tryd.prog 45 #[op none] w fun en w' => en = .returned (.bool false) ∧ w = w' := by
  show Calls Tryd.prog 45 #[.pointer none] w _
  go_enter Tryd.func45, Tryd.ntmps45
  go_wp2_with fail
  go_ret
  exact ⟨rfl, rfl⟩
set_option maxRecDepth 100000 in
theorem isInternal_in (w : World) (b : Nat) (c0 c1 p : Option Nat) (h : Nd w b .nilIface c0 c1 p) : Calls Tryd.prog 45 #[op (some b)] w fun en w' => en = .returned (.bool true) ∧ w = w' := by
  have h0 := h.e
  have hl := h.lt
  show Calls Tryd.prog 45 #[.pointer (some ⟨b, 0, none⟩)] w _
  clear h
  go_enter Tryd.func45, Tryd.ntmps45
  go_wp2_with fail
  go_ret
  exact ⟨rfl, rfl⟩
set_option maxRecDepth 100000 in
theorem isInternal_leaf (w : World) (b k : Nat) (v : Int) (c0 c1 p : Option Nat) (h : Nd w b (item k v) c0 c1 p) : Calls Tryd.prog 45 #[op (some b)] w fun en w' => en = .returned (.bool false) ∧ w = w' := by
  have h0 := h.e
  have hl := h.lt
  show Calls Tryd.prog 45 #[.pointer (some ⟨b, 0, none⟩)] w _
  clear h
  go_enter Tryd.func45, Tryd.ntmps45
  go_wp2_with fail
  go_ret
  exact ⟨rfl, rfl⟩
set_option maxRecDepth 100000 in
theorem isLeaf_nil (w : World) : Calls Tryd.prog 39 #[op none] w fun en w' => en = .returned (.bool false) ∧ w = w' := by
  show Calls Tryd.prog 39 #[.pointer none] w _
  go_enter Tryd.func39, Tryd.ntmps39
  go_wp2_with fail
  go_ret
  exact ⟨rfl, rfl⟩
set_option maxRecDepth 100000 in
theorem isLeaf_leaf (w : World) (b k : Nat) (v : Int) (c0 c1 p : Option Nat) (h : Nd w b (item k v) c0 c1 p) : Calls Tryd.prog 39 #[op (some b)] w fun en w' => en = .returned (.bool true) ∧ w = w' := by
  have HI := Lib.hid (isInternal_leaf w b k v c0 c1 p h)
  show Calls Tryd.prog 39 #[.pointer (some ⟨b, 0, none⟩)] w _
  clear h
  go_enter Tryd.func39, Tryd.ntmps39
  go_wp2_with fail
  refine HI.out.mono ?_
  rintro e w1 ⟨rfl, rfl⟩
  go_wp2_with fail
  go_ret
  exact ⟨rfl, rfl⟩
set_option maxRecDepth 100000 in
theorem isLeaf_in (w : World) (b : Nat) (c0 c1 p : Option Nat) (h : Nd w b .nilIface c0 c1 p) : Calls Tryd.prog 39 #[op (some b)] w fun en w' => en = .returned (.bool false) ∧ w = w' := by
  have HI := Lib.hid (isInternal_in w b c0 c1 p h)
  show Calls Tryd.prog 39 #[.pointer (some ⟨b, 0, none⟩)] w _
  clear h
  go_enter Tryd.func39, Tryd.ntmps39
  go_wp2_with fail
  refine HI.out.mono ?_
  rintro e w1 ⟨rfl, rfl⟩
  go_wp2_with fail
  go_ret
  exact ⟨rfl, rfl⟩
set_option maxRecDepth 100000 in
theorem key_of (k : Nat) (v : Int) (w : World) : Calls Tryd.prog 62 #[.agg #[.int .u64 (k : Int), .int .i64 v]] w fun en w' => en = .returned (.int .u64 (k : Int)) ∧ Same w w' := by
  go_enter Tryd.func62, Tryd.ntmps62
  go_wp2_with fail
  go_ret
  exact ⟨rfl, (Only.refl _ _).alloc _⟩
end Go.Proofs.YtkplikpncpcjdaaDoor.xf

/-
  A y-fast trie's buckets as entries of an x-fast trie.
-/
import Derived.Test.YtcjifjfcjimefaaDoorMB
namespace Go.Proofs.YtcjifjfcjimefaaDoor.xf
open Go.RowKit Go.Proofs.YtcjifjfcjimefaaDoor.base Go.Proofs.YtcjifjfcjimefaaDoor.heap Go.Proofs.YtcjifjfcjimefaaDoor.rows
set_option linter.unusedVariables false

set_option maxRecDepth 100000 in
theorem wrapKey (k : Nat) (b : Nat) (w : World) (h : w.cell? ⟨b, 0, none⟩ = some (.int .u64 (k : Int))) : Calls Tryd.prog 113 #[.pointer (some ⟨b, 0, none⟩)] w fun en w' => en = .returned (.int .u64 (k : Int)) ∧ Same w w' := by
  have hl : b < w.heap.size := World.block_lt_of_cell? w _ h
  go_enter Tryd.func113, Tryd.ntmps113
  go_wp2_with fail
  go_ret
  exact ⟨rfl, Only.refl _ _⟩
/-- buckets -/
def kdY : Kd where
  tau := 126
  pay := fun _ v => .pointer (some ⟨v.toNat, 0, none⟩)
  keyF := 113
  ok := fun w k v => w.cell? ⟨v.toNat, 0, none⟩ = some (.int .u64 (k : Int))
  blk := fun v b => b = v.toNat
  keep := fun w w' k v S h ho hn => (ho.cell (p := ⟨v.toNat, 0, none⟩) (World.block_lt_of_cell? w _ h) (hn _ rfl)).trans h
  lt := fun w k v b h e => by subst e; exact World.block_lt_of_cell? w _ h
  meth := fun k v w => by kernel_rfl
  ahead := fun k v w => by kernel_rfl
  runs := fun args w => by kernel_rfl
  key := fun k v w h => wrapKey k v.toNat w h
instance : Inhabited Kd := ⟨kdY⟩
end Go.Proofs.YtcjifjfcjimefaaDoor.xf

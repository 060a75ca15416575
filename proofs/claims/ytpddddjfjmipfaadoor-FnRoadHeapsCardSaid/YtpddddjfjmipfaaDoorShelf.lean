/-
  DERIVED: THE SHELF's CONTRACTS AT THIS DUMP, IN PLAIN WORDS (tools/lay-plain.mjs out of 'TrydShelf.lean', which tools/lay-shelf.mjs wrote): THE SAME DECLARATIONS UNDER THE SAME NAMES: 'import', 'namespace', 'open', 'def', 'theorem' AND NOTHING ELSE: no command of the shelf's: FOR A HAND-IN. Each laying: the table of numbers ('.._ren') and one theorem, a field a fact of the dump's own or the kernel's comparison; each contract: ONE APPLICATION.
-/
import Derived.Shelf.Small.Bits
import Derived.Shelf.Strconv.Itoa0
import Derived.Ground.GgtProg
import Derived.Shelf.GgSortMore.Iface
import Derived.Shelf.GgSortMore.IfaceD
import Derived.Shelf.GgSortMore.IfacePart
import Derived.Shelf.GgSortMore.IfacePdq
import Derived.Shelf.GgSortMore.SortSort
import Derived.Ground.GgsProg
import Derived.Shelf.SlSortFunc.Xorshift
import Derived.Shelf.SlSortIface.SiftDown
import Derived.Shelf.SlSortIface.HeapSort
import Derived.Shelf.SlSortIface.PartialInsertion
import Derived.Test.YtpddddjfjmipfaaDoorProg
namespace Go.Proofs
open Go.Shelf
def Tryd.lays128_ren : Go.Shelf.Ren := ⟨fun | 128 => 44 | n => n, fun | 51 => 116 | 3 => 3 | 4 => 4 | 46 => 49 | 5 => 5 | 9 => 9 | n => n, fun | n => n⟩
theorem Tryd.lays128 : Go.Proofs.Lays.n128 Tryd.prog Tryd.lays128_ren := {
  mixed := by kernel_rfl
  f128 := Tryd.func44.trans (congrArg some (by kernel_rfl))
  t3 := Tryd.underlying3
  a3 := Tryd.isAgg3
  z3 := Tryd.sizeOf3
  v3 := Tryd.zeroValue3
  t4 := Tryd.underlying4
  a4 := Tryd.isAgg4
  z4 := Tryd.sizeOf4
  v4 := Tryd.zeroValue4
  t5 := Tryd.underlying5
  a5 := Tryd.isAgg5
  z5 := Tryd.sizeOf5
  v5 := Tryd.zeroValue5
  t9 := Tryd.underlying9
  a9 := Tryd.isAgg9
  z9 := Tryd.sizeOf9
  v9 := Tryd.zeroValue9
  t46 := Tryd.underlying49
  a46 := Tryd.isAgg49
  z46 := Tryd.sizeOf49
  v46 := Tryd.zeroValue49
  t51 := Tryd.underlying116
  a51 := Tryd.isAgg116
  z51 := Tryd.sizeOf116
  v51 := Tryd.zeroValue116 }
/-- bits.Len32: "Len32 returns the minimum number of bits required to represent x; the result is 0 for x == 0.": IT RETURNS 'Lib.bitLen x'; the world is as it was. ('h0', 'h1': x is a uint32.) (LAID: no walk: one application.) -/
theorem Tryd.bits_Len32 (x : Int) (w : World) (h0 : 0 ≤ x) (h1 : x ≤ 4294967295) :
    Calls Tryd.prog 44 #[.int .u32 x] w fun e w' => e = .returned (.int .i64 (Lib.bitLen x.toNat)) ∧ w' = w := Any.bits_Len32 Tryd.lays128 x w h0 h1
def Tryd.lays125_ren : Go.Shelf.Ren := ⟨fun | 125 => 39 | 128 => 44 | 129 => 45 | n => n, fun | 46 => 49 | 3 => 3 | 51 => 116 | 53 => 118 | 4 => 4 | 5 => 5 | 9 => 9 | n => n, fun | n => n⟩
theorem Tryd.lays125 : Go.Proofs.Lays.n125 Tryd.prog Tryd.lays125_ren := {
  mixed := by kernel_rfl
  f125 := Tryd.func39.trans (congrArg some (by kernel_rfl))
  f128 := Tryd.func44.trans (congrArg some (by kernel_rfl))
  f129 := Tryd.func45.trans (congrArg some (by kernel_rfl))
  t3 := Tryd.underlying3
  a3 := Tryd.isAgg3
  z3 := Tryd.sizeOf3
  v3 := Tryd.zeroValue3
  t4 := Tryd.underlying4
  a4 := Tryd.isAgg4
  z4 := Tryd.sizeOf4
  v4 := Tryd.zeroValue4
  t5 := Tryd.underlying5
  a5 := Tryd.isAgg5
  z5 := Tryd.sizeOf5
  v5 := Tryd.zeroValue5
  t9 := Tryd.underlying9
  a9 := Tryd.isAgg9
  z9 := Tryd.sizeOf9
  v9 := Tryd.zeroValue9
  t46 := Tryd.underlying49
  a46 := Tryd.isAgg49
  z46 := Tryd.sizeOf49
  v46 := Tryd.zeroValue49
  t51 := Tryd.underlying116
  a51 := Tryd.isAgg116
  z51 := Tryd.sizeOf116
  v51 := Tryd.zeroValue116
  t53 := Tryd.underlying118
  a53 := Tryd.isAgg118
  z53 := Tryd.sizeOf118
  v53 := Tryd.zeroValue118 }
/-- bits.Len: "Len returns the minimum number of bits required to represent x; the result is 0 for x == 0.": IT RETURNS 'Lib.bitLen x'; the world is as it was. (A uint has 64 bits in the model.) ITS CALLEE bits.Len64 IS MET BY ITS OWN CONTRACT OFF THE SHELF (lay that first). (LAID: no walk: one application.) -/
theorem Tryd.bits_Len (x : Int) (w : World) (h0 : 0 ≤ x) (h1 : x ≤ 18446744073709551615) :
    Calls Tryd.prog 39 #[.int .u64 x] w fun e w' => e = .returned (.int .i64 (Lib.bitLen x.toNat)) ∧ w' = w := Any.bits_Len Tryd.lays125 x w h0 h1
def Tryd.lays129_ren : Go.Shelf.Ren := ⟨fun | 129 => 45 | n => n, fun | 53 => 118 | 3 => 3 | 4 => 4 | 46 => 49 | 5 => 5 | 9 => 9 | n => n, fun | n => n⟩
theorem Tryd.lays129 : Go.Proofs.Lays.n129 Tryd.prog Tryd.lays129_ren := {
  mixed := by kernel_rfl
  f129 := Tryd.func45.trans (congrArg some (by kernel_rfl))
  t3 := Tryd.underlying3
  a3 := Tryd.isAgg3
  z3 := Tryd.sizeOf3
  v3 := Tryd.zeroValue3
  t4 := Tryd.underlying4
  a4 := Tryd.isAgg4
  z4 := Tryd.sizeOf4
  v4 := Tryd.zeroValue4
  t5 := Tryd.underlying5
  a5 := Tryd.isAgg5
  z5 := Tryd.sizeOf5
  v5 := Tryd.zeroValue5
  t9 := Tryd.underlying9
  a9 := Tryd.isAgg9
  z9 := Tryd.sizeOf9
  v9 := Tryd.zeroValue9
  t46 := Tryd.underlying49
  a46 := Tryd.isAgg49
  z46 := Tryd.sizeOf49
  v46 := Tryd.zeroValue49
  t53 := Tryd.underlying118
  a53 := Tryd.isAgg118
  z53 := Tryd.sizeOf118
  v53 := Tryd.zeroValue118 }
/-- bits.Len64: "Len64 returns the minimum number of bits required to represent x; the result is 0 for x == 0.": IT RETURNS 'Lib.bitLen x'; the world is as it was. ('h0', 'h1': x is a uint64.) (LAID: no walk: one application.) -/
theorem Tryd.bits_Len64 (x : Int) (w : World) (h0 : 0 ≤ x) (h1 : x ≤ 18446744073709551615) :
    Calls Tryd.prog 45 #[.int .u64 x] w fun e w' => e = .returned (.int .i64 (Lib.bitLen x.toNat)) ∧ w' = w := Any.bits_Len64 Tryd.lays129 x w h0 h1
def Tryd.laysGt33_ren : Go.Shelf.Ren := ⟨fun | 33 => 46 | n => n, fun | 45 => 105 | 3 => 3 | 4 => 4 | 0 => 0 | 43 => 80 | 26 => 124 | 38 => 110 | n => n, fun | n => n⟩
theorem Tryd.laysGt33 : Go.Proofs.LaysGt.n33 Tryd.prog Tryd.laysGt33_ren := {
  mixed := by kernel_rfl
  f33 := Tryd.func46.trans (congrArg some (by kernel_rfl))
  t0 := Tryd.underlying0
  a0 := Tryd.isAgg0
  z0 := Tryd.sizeOf0
  v0 := Tryd.zeroValue0
  i0 := by kernel_rfl
  t3 := Tryd.underlying3
  a3 := Tryd.isAgg3
  z3 := Tryd.sizeOf3
  v3 := Tryd.zeroValue3
  i3 := by kernel_rfl
  t4 := Tryd.underlying4
  a4 := Tryd.isAgg4
  z4 := Tryd.sizeOf4
  v4 := Tryd.zeroValue4
  i4 := by kernel_rfl
  t26 := Tryd.underlying124
  a26 := Tryd.isAgg124
  z26 := Tryd.sizeOf124
  v26 := Tryd.zeroValue124
  i26 := by kernel_rfl
  t38 := Tryd.underlying110
  a38 := Tryd.isAgg110
  z38 := Tryd.sizeOf110
  v38 := Tryd.zeroValue110
  i38 := by kernel_rfl
  t43 := Tryd.underlying80
  a43 := Tryd.isAgg80
  z43 := Tryd.sizeOf80
  v43 := Tryd.zeroValue80
  i43 := by kernel_rfl
  t45 := Tryd.underlying105
  a45 := Tryd.isAgg105
  z45 := Tryd.sizeOf105
  v45 := Tryd.zeroValue105
  i45 := by kernel_rfl }
open Go.RowKit Go.Lib Go.Sort in
theorem Tryd.insertionSort_iface {α : Type} [Inhabited α] (T : TypeId) (rv : Value) (gl gs : Nat) (rL : Reaches Tryd.prog T rv "Less" gl) (rS : Reaches Tryd.prog T rv "Swap" gs) (enc : α → Value) (lt : α → α → Bool) (blk off a b : Nat) (d : Array α) (w : World) (hless : LessM Tryd.prog gl rv enc lt blk off d.size w) (hswap : SwapM Tryd.prog gs rv enc blk off d.size) (hH : Holds enc w blk off d) (hab : a ≤ b) (hb : b ≤ d.size) (hsz : d.size < 4611686018427387904) :
    Calls Tryd.prog 46 #[.iface T rv, .int .i64 a, .int .i64 b] w fun e w' =>
      e = .returned (.tuple #[]) ∧ ∃ n, w' = putRow enc (Sort.ahead w n) blk off (Sort.insertionSort lt d a b) := Any.insertionSort_iface Tryd.laysGt33 T rv gl gs rL rS enc lt blk off a b d w hless hswap hH hab hb hsz
open Go.RowKit Go.Lib Go.Sort in
/-- sort.insertionSort, from a world to a 'sortWorld' of it. (LAID: no walk: one application.) -/
theorem Tryd.insertionSort_iface_w {α : Type} [Inhabited α] (T : TypeId) (rv : Value) (gl gs : Nat) (rL : Reaches Tryd.prog T rv "Less" gl) (rS : Reaches Tryd.prog T rv "Swap" gs) (enc : α → Value) (lt : α → α → Bool) (blk off a b : Nat) (d : Array α) (w : World) (hless : LessM Tryd.prog gl rv enc lt blk off d.size w) (hswap : SwapM Tryd.prog gs rv enc blk off d.size) (hH : Holds enc w blk off d) (hab : a ≤ b) (hb : b ≤ d.size) (hsz : d.size < 4611686018427387904) :
    Calls Tryd.prog 46 #[.iface T rv, .int .i64 a, .int .i64 b] w fun e w' => e = .returned (.tuple #[]) ∧ ∃ n os, w' = sortWorld enc w blk off n (Sort.insertionSort lt d a b) os := Any.insertionSort_iface_w Tryd.laysGt33 T rv gl gs rL rS enc lt blk off a b d w hless hswap hH hab hb hsz
def Tryd.laysGt37_ren : Go.Shelf.Ren := ⟨fun | 37 => 50 | n => n, fun | 45 => 105 | 3 => 3 | 4 => 4 | 0 => 0 | 43 => 80 | 26 => 124 | 38 => 110 | n => n, fun | n => n⟩
theorem Tryd.laysGt37 : Go.Proofs.LaysGt.n37 Tryd.prog Tryd.laysGt37_ren := {
  mixed := by kernel_rfl
  f37 := Tryd.func50.trans (congrArg some (by kernel_rfl))
  t0 := Tryd.underlying0
  a0 := Tryd.isAgg0
  z0 := Tryd.sizeOf0
  v0 := Tryd.zeroValue0
  i0 := by kernel_rfl
  t3 := Tryd.underlying3
  a3 := Tryd.isAgg3
  z3 := Tryd.sizeOf3
  v3 := Tryd.zeroValue3
  i3 := by kernel_rfl
  t4 := Tryd.underlying4
  a4 := Tryd.isAgg4
  z4 := Tryd.sizeOf4
  v4 := Tryd.zeroValue4
  i4 := by kernel_rfl
  t26 := Tryd.underlying124
  a26 := Tryd.isAgg124
  z26 := Tryd.sizeOf124
  v26 := Tryd.zeroValue124
  i26 := by kernel_rfl
  t38 := Tryd.underlying110
  a38 := Tryd.isAgg110
  z38 := Tryd.sizeOf110
  v38 := Tryd.zeroValue110
  i38 := by kernel_rfl
  t43 := Tryd.underlying80
  a43 := Tryd.isAgg80
  z43 := Tryd.sizeOf80
  v43 := Tryd.zeroValue80
  i43 := by kernel_rfl
  t45 := Tryd.underlying105
  a45 := Tryd.isAgg105
  z45 := Tryd.sizeOf105
  v45 := Tryd.zeroValue105
  i45 := by kernel_rfl }
open Go.RowKit Go.Lib Go.Sort in
theorem Tryd.reverseRange_iface {α : Type} [Inhabited α] (T : TypeId) (rv : Value) (gs : Nat) (rS : Reaches Tryd.prog T rv "Swap" gs) (enc : α → Value) (blk off a b : Nat) (d : Array α) (w : World) (hswap : SwapM Tryd.prog gs rv enc blk off d.size) (hH : Holds enc w blk off d) (hab : a ≤ b) (hb : b ≤ d.size) (hsz : d.size < 4611686018427387904) :
    Calls Tryd.prog 50 #[.iface T rv, .int .i64 a, .int .i64 b] w fun e w' => e = .returned (.tuple #[]) ∧ ∃ n, w' = putRow enc (Sort.ahead w n) blk off (reverseRange d a b) := Any.reverseRange_iface Tryd.laysGt37 T rv gs rS enc blk off a b d w hswap hH hab hb hsz
open Go.RowKit Go.Lib Go.Sort in
theorem Tryd.reverseRange_iface_w {α : Type} [Inhabited α] (T : TypeId) (rv : Value) (gs : Nat) (rS : Reaches Tryd.prog T rv "Swap" gs) (enc : α → Value) (blk off a b : Nat) (d : Array α) (w : World) (hswap : SwapM Tryd.prog gs rv enc blk off d.size) (hH : Holds enc w blk off d) (hab : a ≤ b) (hb : b ≤ d.size) (hsz : d.size < 4611686018427387904) :
    Calls Tryd.prog 50 #[.iface T rv, .int .i64 a, .int .i64 b] w fun e w' => e = .returned (.tuple #[]) ∧ ∃ n os, w' = sortWorld enc w blk off n (reverseRange d a b) os := Any.reverseRange_iface_w Tryd.laysGt37 T rv gs rS enc blk off a b d w hswap hH hab hb hsz
def Tryd.laysGt50_ren : Go.Shelf.Ren := ⟨fun | 50 => 59 | n => n, fun | 45 => 105 | 3 => 3 | 71 => 132 | 4 => 4 | 0 => 0 | 43 => 80 | 26 => 124 | 38 => 110 | n => n, fun | n => n⟩
theorem Tryd.laysGt50 : Go.Proofs.LaysGt.n50 Tryd.prog Tryd.laysGt50_ren := {
  mixed := by kernel_rfl
  f50 := Tryd.func59.trans (congrArg some (by kernel_rfl))
  t0 := Tryd.underlying0
  a0 := Tryd.isAgg0
  z0 := Tryd.sizeOf0
  v0 := Tryd.zeroValue0
  i0 := by kernel_rfl
  t3 := Tryd.underlying3
  a3 := Tryd.isAgg3
  z3 := Tryd.sizeOf3
  v3 := Tryd.zeroValue3
  i3 := by kernel_rfl
  t4 := Tryd.underlying4
  a4 := Tryd.isAgg4
  z4 := Tryd.sizeOf4
  v4 := Tryd.zeroValue4
  i4 := by kernel_rfl
  t26 := Tryd.underlying124
  a26 := Tryd.isAgg124
  z26 := Tryd.sizeOf124
  v26 := Tryd.zeroValue124
  i26 := by kernel_rfl
  t38 := Tryd.underlying110
  a38 := Tryd.isAgg110
  z38 := Tryd.sizeOf110
  v38 := Tryd.zeroValue110
  i38 := by kernel_rfl
  t43 := Tryd.underlying80
  a43 := Tryd.isAgg80
  z43 := Tryd.sizeOf80
  v43 := Tryd.zeroValue80
  i43 := by kernel_rfl
  t45 := Tryd.underlying105
  a45 := Tryd.isAgg105
  z45 := Tryd.sizeOf105
  v45 := Tryd.zeroValue105
  i45 := by kernel_rfl
  t71 := Tryd.underlying132
  a71 := Tryd.isAgg132
  z71 := Tryd.sizeOf132
  v71 := Tryd.zeroValue132
  i71 := by kernel_rfl }
open Go.RowKit Go.Lib Go.Sort in
theorem Tryd.order2_iface {α : Type} [Inhabited α] (T : TypeId) (rv : Value) (gl : Nat) (rL : Reaches Tryd.prog T rv "Less" gl) (enc : α → Value) (lt : α → α → Bool) (blk off : Nat) (w0 W : World) (d : Array α) (a b cb co s : Nat) (hL : LessM Tryd.prog gl rv enc lt blk off d.size w0) (hW : SW enc w0 blk off d W) (ha : a < d.size) (hb : b < d.size) (hS : Holds (Value.int .i64) W cb co (one s)) (hs : s < 4611686018427387904) :
    Calls Tryd.prog 59 #[.iface T rv, .int .i64 a, .int .i64 b, .pointer (some ⟨cb, co, none⟩)] W fun e w' =>
      e = .returned (.tuple #[.int .i64 (order2 lt d a b s).1, .int .i64 (order2 lt d a b s).2.1]) ∧ ∃ n os, w' = sortWorld (Value.int .i64) W cb co n (one (order2 lt d a b s).2.2) os := Any.order2_iface Tryd.laysGt50 T rv gl rL enc lt blk off w0 W d a b cb co s hL hW ha hb hS hs
def Tryd.laysGt47_ren : Go.Shelf.Ren := ⟨fun | 47 => 58 | 50 => 59 | n => n, fun | 45 => 105 | 3 => 3 | 71 => 132 | 74 => 135 | 4 => 4 | 0 => 0 | 43 => 80 | 26 => 124 | 38 => 110 | n => n, fun | n => n⟩
theorem Tryd.laysGt47 : Go.Proofs.LaysGt.n47 Tryd.prog Tryd.laysGt47_ren := {
  mixed := by kernel_rfl
  f47 := Tryd.func58.trans (congrArg some (by kernel_rfl))
  f50 := Tryd.func59.trans (congrArg some (by kernel_rfl))
  t0 := Tryd.underlying0
  a0 := Tryd.isAgg0
  z0 := Tryd.sizeOf0
  v0 := Tryd.zeroValue0
  i0 := by kernel_rfl
  t3 := Tryd.underlying3
  a3 := Tryd.isAgg3
  z3 := Tryd.sizeOf3
  v3 := Tryd.zeroValue3
  i3 := by kernel_rfl
  t4 := Tryd.underlying4
  a4 := Tryd.isAgg4
  z4 := Tryd.sizeOf4
  v4 := Tryd.zeroValue4
  i4 := by kernel_rfl
  t26 := Tryd.underlying124
  a26 := Tryd.isAgg124
  z26 := Tryd.sizeOf124
  v26 := Tryd.zeroValue124
  i26 := by kernel_rfl
  t38 := Tryd.underlying110
  a38 := Tryd.isAgg110
  z38 := Tryd.sizeOf110
  v38 := Tryd.zeroValue110
  i38 := by kernel_rfl
  t43 := Tryd.underlying80
  a43 := Tryd.isAgg80
  z43 := Tryd.sizeOf80
  v43 := Tryd.zeroValue80
  i43 := by kernel_rfl
  t45 := Tryd.underlying105
  a45 := Tryd.isAgg105
  z45 := Tryd.sizeOf105
  v45 := Tryd.zeroValue105
  i45 := by kernel_rfl
  t71 := Tryd.underlying132
  a71 := Tryd.isAgg132
  z71 := Tryd.sizeOf132
  v71 := Tryd.zeroValue132
  i71 := by kernel_rfl
  t74 := Tryd.underlying135
  a74 := Tryd.isAgg135
  z74 := Tryd.sizeOf135
  v74 := Tryd.zeroValue135
  i74 := by kernel_rfl }
open Go.RowKit Go.Lib Go.Sort in
theorem Tryd.median_iface {α : Type} [Inhabited α] (T : TypeId) (rv : Value) (gl : Nat) (rL : Reaches Tryd.prog T rv "Less" gl) (enc : α → Value) (lt : α → α → Bool) (blk off : Nat) (w0 W : World) (d : Array α) (a b c cb co s : Nat) (hL : LessM Tryd.prog gl rv enc lt blk off d.size w0) (hW : SW enc w0 blk off d W) (ha : a < d.size) (hb : b < d.size) (hc : c < d.size) (hS : Holds (Value.int .i64) W cb co (one s)) (hcb0 : w0.heap.size ≤ cb) (hcb : cb < W.heap.size) (hs : s + 3 < 4611686018427387904) :
    Calls Tryd.prog 58 #[.iface T rv, .int .i64 a, .int .i64 b, .int .i64 c, .pointer (some ⟨cb, co, none⟩)] W fun e w' =>
      e = .returned (.int .i64 (median lt d a b c s).1) ∧ ∃ n os, w' = sortWorld (Value.int .i64) W cb co n (one (median lt d a b c s).2) os := Any.median_iface Tryd.laysGt47 T rv gl rL enc lt blk off w0 W d a b c cb co s hL hW ha hb hc hS hcb0 hcb hs
def Tryd.laysGt46_ren : Go.Shelf.Ren := ⟨fun | 46 => 57 | 47 => 58 | 50 => 59 | n => n, fun | 45 => 105 | 3 => 3 | 71 => 132 | 74 => 135 | 4 => 4 | 0 => 0 | 43 => 80 | 26 => 124 | 38 => 110 | n => n, fun | n => n⟩
theorem Tryd.laysGt46 : Go.Proofs.LaysGt.n46 Tryd.prog Tryd.laysGt46_ren := {
  mixed := by kernel_rfl
  f46 := Tryd.func57.trans (congrArg some (by kernel_rfl))
  f47 := Tryd.func58.trans (congrArg some (by kernel_rfl))
  f50 := Tryd.func59.trans (congrArg some (by kernel_rfl))
  t0 := Tryd.underlying0
  a0 := Tryd.isAgg0
  z0 := Tryd.sizeOf0
  v0 := Tryd.zeroValue0
  i0 := by kernel_rfl
  t3 := Tryd.underlying3
  a3 := Tryd.isAgg3
  z3 := Tryd.sizeOf3
  v3 := Tryd.zeroValue3
  i3 := by kernel_rfl
  t4 := Tryd.underlying4
  a4 := Tryd.isAgg4
  z4 := Tryd.sizeOf4
  v4 := Tryd.zeroValue4
  i4 := by kernel_rfl
  t26 := Tryd.underlying124
  a26 := Tryd.isAgg124
  z26 := Tryd.sizeOf124
  v26 := Tryd.zeroValue124
  i26 := by kernel_rfl
  t38 := Tryd.underlying110
  a38 := Tryd.isAgg110
  z38 := Tryd.sizeOf110
  v38 := Tryd.zeroValue110
  i38 := by kernel_rfl
  t43 := Tryd.underlying80
  a43 := Tryd.isAgg80
  z43 := Tryd.sizeOf80
  v43 := Tryd.zeroValue80
  i43 := by kernel_rfl
  t45 := Tryd.underlying105
  a45 := Tryd.isAgg105
  z45 := Tryd.sizeOf105
  v45 := Tryd.zeroValue105
  i45 := by kernel_rfl
  t71 := Tryd.underlying132
  a71 := Tryd.isAgg132
  z71 := Tryd.sizeOf132
  v71 := Tryd.zeroValue132
  i71 := by kernel_rfl
  t74 := Tryd.underlying135
  a74 := Tryd.isAgg135
  z74 := Tryd.sizeOf135
  v74 := Tryd.zeroValue135
  i74 := by kernel_rfl }
open Go.RowKit Go.Lib Go.Sort in
theorem Tryd.medianAdjacent_iface {α : Type} [Inhabited α] (T : TypeId) (rv : Value) (gl : Nat) (rL : Reaches Tryd.prog T rv "Less" gl) (enc : α → Value) (lt : α → α → Bool) (blk off : Nat) (w0 W : World) (d : Array α) (a cb co s : Nat) (hL : LessM Tryd.prog gl rv enc lt blk off d.size w0) (hW : SW enc w0 blk off d W) (ha1 : 1 ≤ a) (ha2 : a + 1 < d.size) (hsz : d.size < 4611686018427387904) (hS : Holds (Value.int .i64) W cb co (one s)) (hcb0 : w0.heap.size ≤ cb) (hcb : cb < W.heap.size) (hs : s + 3 < 4611686018427387904) :
    Calls Tryd.prog 57 #[.iface T rv, .int .i64 a, .pointer (some ⟨cb, co, none⟩)] W fun e w' =>
      e = .returned (.int .i64 (medianAdjacent lt d a s).1) ∧ ∃ n os, w' = sortWorld (Value.int .i64) W cb co n (one (medianAdjacent lt d a s).2) os := Any.medianAdjacent_iface Tryd.laysGt46 T rv gl rL enc lt blk off w0 W d a cb co s hL hW ha1 ha2 hsz hS hcb0 hcb hs
def Tryd.laysGt36_ren : Go.Shelf.Ren := ⟨fun | 36 => 49 | 46 => 57 | 47 => 58 | 50 => 59 | n => n, fun | 45 => 105 | 3 => 3 | 60 => 120 | 0 => 0 | 4 => 4 | 71 => 132 | 74 => 135 | 43 => 80 | 26 => 124 | 38 => 110 | n => n, fun | n => n⟩
theorem Tryd.laysGt36 : Go.Proofs.LaysGt.n36 Tryd.prog Tryd.laysGt36_ren := {
  mixed := by kernel_rfl
  f36 := Tryd.func49.trans (congrArg some (by kernel_rfl))
  f46 := Tryd.func57.trans (congrArg some (by kernel_rfl))
  f47 := Tryd.func58.trans (congrArg some (by kernel_rfl))
  f50 := Tryd.func59.trans (congrArg some (by kernel_rfl))
  t0 := Tryd.underlying0
  a0 := Tryd.isAgg0
  z0 := Tryd.sizeOf0
  v0 := Tryd.zeroValue0
  i0 := by kernel_rfl
  t3 := Tryd.underlying3
  a3 := Tryd.isAgg3
  z3 := Tryd.sizeOf3
  v3 := Tryd.zeroValue3
  i3 := by kernel_rfl
  t4 := Tryd.underlying4
  a4 := Tryd.isAgg4
  z4 := Tryd.sizeOf4
  v4 := Tryd.zeroValue4
  i4 := by kernel_rfl
  t26 := Tryd.underlying124
  a26 := Tryd.isAgg124
  z26 := Tryd.sizeOf124
  v26 := Tryd.zeroValue124
  i26 := by kernel_rfl
  t38 := Tryd.underlying110
  a38 := Tryd.isAgg110
  z38 := Tryd.sizeOf110
  v38 := Tryd.zeroValue110
  i38 := by kernel_rfl
  t43 := Tryd.underlying80
  a43 := Tryd.isAgg80
  z43 := Tryd.sizeOf80
  v43 := Tryd.zeroValue80
  i43 := by kernel_rfl
  t45 := Tryd.underlying105
  a45 := Tryd.isAgg105
  z45 := Tryd.sizeOf105
  v45 := Tryd.zeroValue105
  i45 := by kernel_rfl
  t60 := Tryd.underlying120
  a60 := Tryd.isAgg120
  z60 := Tryd.sizeOf120
  v60 := Tryd.zeroValue120
  i60 := by kernel_rfl
  t71 := Tryd.underlying132
  a71 := Tryd.isAgg132
  z71 := Tryd.sizeOf132
  v71 := Tryd.zeroValue132
  i71 := by kernel_rfl
  t74 := Tryd.underlying135
  a74 := Tryd.isAgg135
  z74 := Tryd.sizeOf135
  v74 := Tryd.zeroValue135
  i74 := by kernel_rfl }
open Go.RowKit Go.Lib Go.Sort in
/-- sort.choosePivot (zsortinterface.go): THE LIBRARY's OWN TEXT COMPUTES 'Sort.choosePivot lt d a b'; the row is not turned; W is grown. (Derived/Shelf/GgSortFunc/Pivot.lean's text, turned by program.) (LAID: no walk: one application.) -/
theorem Tryd.choosePivot_iface {α : Type} [Inhabited α] (T : TypeId) (rv : Value) (gl : Nat) (rL : Reaches Tryd.prog T rv "Less" gl) (enc : α → Value) (lt : α → α → Bool) (blk off a b : Nat) (W : World) (d : Array α) (hless : LessM Tryd.prog gl rv enc lt blk off d.size W) (hH : Holds enc W blk off d) (hab : a < b) (hb : b ≤ d.size) (hsz : d.size < 4611686018427387904) :
    Calls Tryd.prog 49 #[.iface T rv, .int .i64 a, .int .i64 b] W fun e w' =>
      e = .returned (.tuple #[.int .i64 (choosePivot lt d a b).1, .int .i64 (hintCode (choosePivot lt d a b).2)]) ∧ ∃ n os, w' = grow (Sort.ahead W n) os := Any.choosePivot_iface Tryd.laysGt36 T rv gl rL enc lt blk off a b W d hless hH hab hb hsz
def Tryd.laysGt39_ren : Go.Shelf.Ren := ⟨fun | 39 => 52 | n => n, fun | 45 => 105 | 3 => 3 | 0 => 0 | 4 => 4 | 43 => 80 | 26 => 124 | 38 => 110 | n => n, fun | n => n⟩
theorem Tryd.laysGt39 : Go.Proofs.LaysGt.n39 Tryd.prog Tryd.laysGt39_ren := {
  mixed := by kernel_rfl
  f39 := Tryd.func52.trans (congrArg some (by kernel_rfl))
  t0 := Tryd.underlying0
  a0 := Tryd.isAgg0
  z0 := Tryd.sizeOf0
  v0 := Tryd.zeroValue0
  i0 := by kernel_rfl
  t3 := Tryd.underlying3
  a3 := Tryd.isAgg3
  z3 := Tryd.sizeOf3
  v3 := Tryd.zeroValue3
  i3 := by kernel_rfl
  t4 := Tryd.underlying4
  a4 := Tryd.isAgg4
  z4 := Tryd.sizeOf4
  v4 := Tryd.zeroValue4
  i4 := by kernel_rfl
  t26 := Tryd.underlying124
  a26 := Tryd.isAgg124
  z26 := Tryd.sizeOf124
  v26 := Tryd.zeroValue124
  i26 := by kernel_rfl
  t38 := Tryd.underlying110
  a38 := Tryd.isAgg110
  z38 := Tryd.sizeOf110
  v38 := Tryd.zeroValue110
  i38 := by kernel_rfl
  t43 := Tryd.underlying80
  a43 := Tryd.isAgg80
  z43 := Tryd.sizeOf80
  v43 := Tryd.zeroValue80
  i43 := by kernel_rfl
  t45 := Tryd.underlying105
  a45 := Tryd.isAgg105
  z45 := Tryd.sizeOf105
  v45 := Tryd.zeroValue105
  i45 := by kernel_rfl }
open Go.RowKit Go.Lib Go.Sort in
theorem Tryd.partitionEqual_iface {α : Type} [Inhabited α] (T : TypeId) (rv : Value) (gl gs : Nat) (rL : Reaches Tryd.prog T rv "Less" gl) (rS : Reaches Tryd.prog T rv "Swap" gs) (enc : α → Value) (lt : α → α → Bool) (blk off a b pivot : Nat) (d : Array α) (W : World) (hless : LessM Tryd.prog gl rv enc lt blk off d.size W) (hswap : SwapM Tryd.prog gs rv enc blk off d.size) (hH : Holds enc W blk off d) (hap : a ≤ pivot) (hpb : pivot < b) (hb : b ≤ d.size) (hsz : d.size < 4611686018427387904) :
    Calls Tryd.prog 52 #[.iface T rv, .int .i64 a, .int .i64 b, .int .i64 pivot] W fun e w' =>
      e = .returned (.int .i64 (Sort.partitionEqual lt d a b pivot).1) ∧ ∃ n, w' = (putRow enc W blk off (Sort.partitionEqual lt d a b pivot).2).drewN n := Any.partitionEqual_iface Tryd.laysGt39 T rv gl gs rL rS enc lt blk off a b pivot d W hless hswap hH hap hpb hb hsz
def Tryd.laysGt40_ren : Go.Shelf.Ren := ⟨fun | 40 => 53 | n => n, fun | 45 => 105 | 3 => 3 | 4 => 4 | 0 => 0 | 43 => 80 | 26 => 124 | 38 => 110 | n => n, fun | n => n⟩
theorem Tryd.laysGt40 : Go.Proofs.LaysGt.n40 Tryd.prog Tryd.laysGt40_ren := {
  mixed := by kernel_rfl
  f40 := Tryd.func53.trans (congrArg some (by kernel_rfl))
  t0 := Tryd.underlying0
  a0 := Tryd.isAgg0
  z0 := Tryd.sizeOf0
  v0 := Tryd.zeroValue0
  i0 := by kernel_rfl
  t3 := Tryd.underlying3
  a3 := Tryd.isAgg3
  z3 := Tryd.sizeOf3
  v3 := Tryd.zeroValue3
  i3 := by kernel_rfl
  t4 := Tryd.underlying4
  a4 := Tryd.isAgg4
  z4 := Tryd.sizeOf4
  v4 := Tryd.zeroValue4
  i4 := by kernel_rfl
  t26 := Tryd.underlying124
  a26 := Tryd.isAgg124
  z26 := Tryd.sizeOf124
  v26 := Tryd.zeroValue124
  i26 := by kernel_rfl
  t38 := Tryd.underlying110
  a38 := Tryd.isAgg110
  z38 := Tryd.sizeOf110
  v38 := Tryd.zeroValue110
  i38 := by kernel_rfl
  t43 := Tryd.underlying80
  a43 := Tryd.isAgg80
  z43 := Tryd.sizeOf80
  v43 := Tryd.zeroValue80
  i43 := by kernel_rfl
  t45 := Tryd.underlying105
  a45 := Tryd.isAgg105
  z45 := Tryd.sizeOf105
  v45 := Tryd.zeroValue105
  i45 := by kernel_rfl }
open Go.RowKit Go.Lib Go.Sort in
theorem Tryd.partition_iface {α : Type} [Inhabited α] (T : TypeId) (rv : Value) (gl gs : Nat) (rL : Reaches Tryd.prog T rv "Less" gl) (rS : Reaches Tryd.prog T rv "Swap" gs) (enc : α → Value) (lt : α → α → Bool) (blk off a b pivot : Nat) (d : Array α) (W : World) (hless : LessM Tryd.prog gl rv enc lt blk off d.size W) (hswap : SwapM Tryd.prog gs rv enc blk off d.size) (hH : Holds enc W blk off d) (hap : a ≤ pivot) (hpb : pivot < b) (hb : b ≤ d.size) (hsz : d.size < 4611686018427387904) :
    Calls Tryd.prog 53 #[.iface T rv, .int .i64 a, .int .i64 b, .int .i64 pivot] W fun e w' =>
      e = .returned (.tuple #[.int .i64 (Sort.partition lt d a b pivot).1, .bool (Sort.partition lt d a b pivot).2.1]) ∧ ∃ n, w' = (putRow enc W blk off (Sort.partition lt d a b pivot).2.2).drewN n := Any.partition_iface Tryd.laysGt40 T rv gl gs rL rS enc lt blk off a b pivot d W hless hswap hH hap hpb hb hsz
open Go.RowKit Go.Lib Go.Sort in
theorem Tryd.partitionEqual_iface_w {α : Type} [Inhabited α] (T : TypeId) (rv : Value) (gl gs : Nat) (rL : Reaches Tryd.prog T rv "Less" gl) (rS : Reaches Tryd.prog T rv "Swap" gs) (enc : α → Value) (lt : α → α → Bool) (blk off a b pivot : Nat) (d : Array α) (W : World) (hless : LessM Tryd.prog gl rv enc lt blk off d.size W) (hswap : SwapM Tryd.prog gs rv enc blk off d.size) (hH : Holds enc W blk off d) (hap : a ≤ pivot) (hpb : pivot < b) (hb : b ≤ d.size) (hsz : d.size < 4611686018427387904) :
    Calls Tryd.prog 52 #[.iface T rv, .int .i64 a, .int .i64 b, .int .i64 pivot] W fun e w' => e = .returned (.int .i64 (Sort.partitionEqual lt d a b pivot).1) ∧ ∃ n os, w' = sortWorld enc W blk off n (Sort.partitionEqual lt d a b pivot).2 os := Any.partitionEqual_iface_w Tryd.laysGt39 T rv gl gs rL rS enc lt blk off a b pivot d W hless hswap hH hap hpb hb hsz
open Go.RowKit Go.Lib Go.Sort in
theorem Tryd.partition_iface_w {α : Type} [Inhabited α] (T : TypeId) (rv : Value) (gl gs : Nat) (rL : Reaches Tryd.prog T rv "Less" gl) (rS : Reaches Tryd.prog T rv "Swap" gs) (enc : α → Value) (lt : α → α → Bool) (blk off a b pivot : Nat) (d : Array α) (W : World) (hless : LessM Tryd.prog gl rv enc lt blk off d.size W) (hswap : SwapM Tryd.prog gs rv enc blk off d.size) (hH : Holds enc W blk off d) (hap : a ≤ pivot) (hpb : pivot < b) (hb : b ≤ d.size) (hsz : d.size < 4611686018427387904) :
    Calls Tryd.prog 53 #[.iface T rv, .int .i64 a, .int .i64 b, .int .i64 pivot] W fun e w' => e = .returned (.tuple #[.int .i64 (Sort.partition lt d a b pivot).1, .bool (Sort.partition lt d a b pivot).2.1]) ∧ ∃ n os, w' = sortWorld enc W blk off n (Sort.partition lt d a b pivot).2.2 os := Any.partition_iface_w Tryd.laysGt40 T rv gl gs rL rS enc lt blk off a b pivot d W hless hswap hH hap hpb hb hsz
def Tryd.laysGt18_ren : Go.Shelf.Ren := ⟨fun | 18 => 40 | 33 => 46 | 34 => 47 | 35 => 48 | 36 => 49 | 37 => 50 | 38 => 51 | 39 => 52 | 40 => 53 | 43 => 54 | 44 => 55 | 45 => 56 | 46 => 57 | 47 => 58 | 17 => 39 | 50 => 59 | 31 => 44 | 32 => 45 | n => n, fun | 45 => 105 | 3 => 3 | 4 => 4 | 0 => 0 | 61 => 121 | 60 => 120 | 65 => 126 | 67 => 128 | 47 => 49 | 58 => 118 | 71 => 132 | 73 => 134 | 74 => 135 | 56 => 116 | 5 => 5 | 9 => 9 | 43 => 80 | 26 => 124 | 38 => 110 | n => n, fun | n => n⟩
theorem Tryd.laysGt18 : Go.Proofs.LaysGt.n18 Tryd.prog Tryd.laysGt18_ren := {
  mixed := by kernel_rfl
  f17 := Tryd.func39.trans (congrArg some (by kernel_rfl))
  f18 := Tryd.func40.trans (congrArg some (by kernel_rfl))
  f31 := Tryd.func44.trans (congrArg some (by kernel_rfl))
  f32 := Tryd.func45.trans (congrArg some (by kernel_rfl))
  f33 := Tryd.func46.trans (congrArg some (by kernel_rfl))
  f34 := Tryd.func47.trans (congrArg some (by kernel_rfl))
  f35 := Tryd.func48.trans (congrArg some (by kernel_rfl))
  f36 := Tryd.func49.trans (congrArg some (by kernel_rfl))
  f37 := Tryd.func50.trans (congrArg some (by kernel_rfl))
  f38 := Tryd.func51.trans (congrArg some (by kernel_rfl))
  f39 := Tryd.func52.trans (congrArg some (by kernel_rfl))
  f40 := Tryd.func53.trans (congrArg some (by kernel_rfl))
  f43 := Tryd.func54.trans (congrArg some (by kernel_rfl))
  f44 := Tryd.func55.trans (congrArg some (by kernel_rfl))
  f45 := Tryd.func56.trans (congrArg some (by kernel_rfl))
  f46 := Tryd.func57.trans (congrArg some (by kernel_rfl))
  f47 := Tryd.func58.trans (congrArg some (by kernel_rfl))
  f50 := Tryd.func59.trans (congrArg some (by kernel_rfl))
  t0 := Tryd.underlying0
  a0 := Tryd.isAgg0
  z0 := Tryd.sizeOf0
  v0 := Tryd.zeroValue0
  i0 := by kernel_rfl
  t3 := Tryd.underlying3
  a3 := Tryd.isAgg3
  z3 := Tryd.sizeOf3
  v3 := Tryd.zeroValue3
  i3 := by kernel_rfl
  t4 := Tryd.underlying4
  a4 := Tryd.isAgg4
  z4 := Tryd.sizeOf4
  v4 := Tryd.zeroValue4
  i4 := by kernel_rfl
  t5 := Tryd.underlying5
  a5 := Tryd.isAgg5
  z5 := Tryd.sizeOf5
  v5 := Tryd.zeroValue5
  i5 := by kernel_rfl
  t9 := Tryd.underlying9
  a9 := Tryd.isAgg9
  z9 := Tryd.sizeOf9
  v9 := Tryd.zeroValue9
  i9 := by kernel_rfl
  t26 := Tryd.underlying124
  a26 := Tryd.isAgg124
  z26 := Tryd.sizeOf124
  v26 := Tryd.zeroValue124
  i26 := by kernel_rfl
  t38 := Tryd.underlying110
  a38 := Tryd.isAgg110
  z38 := Tryd.sizeOf110
  v38 := Tryd.zeroValue110
  i38 := by kernel_rfl
  t43 := Tryd.underlying80
  a43 := Tryd.isAgg80
  z43 := Tryd.sizeOf80
  v43 := Tryd.zeroValue80
  i43 := by kernel_rfl
  t45 := Tryd.underlying105
  a45 := Tryd.isAgg105
  z45 := Tryd.sizeOf105
  v45 := Tryd.zeroValue105
  i45 := by kernel_rfl
  t47 := Tryd.underlying49
  a47 := Tryd.isAgg49
  z47 := Tryd.sizeOf49
  v47 := Tryd.zeroValue49
  i47 := by kernel_rfl
  t56 := Tryd.underlying116
  a56 := Tryd.isAgg116
  z56 := Tryd.sizeOf116
  v56 := Tryd.zeroValue116
  i56 := by kernel_rfl
  t58 := Tryd.underlying118
  a58 := Tryd.isAgg118
  z58 := Tryd.sizeOf118
  v58 := Tryd.zeroValue118
  i58 := by kernel_rfl
  t60 := Tryd.underlying120
  a60 := Tryd.isAgg120
  z60 := Tryd.sizeOf120
  v60 := Tryd.zeroValue120
  i60 := by kernel_rfl
  t61 := Tryd.underlying121
  a61 := Tryd.isAgg121
  z61 := Tryd.sizeOf121
  v61 := Tryd.zeroValue121
  i61 := by kernel_rfl
  t65 := Tryd.underlying126
  a65 := Tryd.isAgg126
  z65 := Tryd.sizeOf126
  v65 := Tryd.zeroValue126
  i65 := by kernel_rfl
  t67 := Tryd.underlying128
  a67 := Tryd.isAgg128
  z67 := Tryd.sizeOf128
  v67 := Tryd.zeroValue128
  i67 := by kernel_rfl
  t71 := Tryd.underlying132
  a71 := Tryd.isAgg132
  z71 := Tryd.sizeOf132
  v71 := Tryd.zeroValue132
  i71 := by kernel_rfl
  t73 := Tryd.underlying134
  a73 := Tryd.isAgg134
  z73 := Tryd.sizeOf134
  v73 := Tryd.zeroValue134
  i73 := by kernel_rfl
  t74 := Tryd.underlying135
  a74 := Tryd.isAgg135
  z74 := Tryd.sizeOf135
  v74 := Tryd.zeroValue135
  i74 := by kernel_rfl }
open Go.RowKit Go.Lib Go.Sort in
theorem Tryd.pdqsort_iface {α : Type} [Inhabited α] (T : TypeId) (rv : Value) (gl gs : Nat) (rL : Reaches Tryd.prog T rv "Less" gl) (rS : Reaches Tryd.prog T rv "Swap" gs) (enc : α → Value) (lt : α → α → Bool) (hO : SWO lt) (C : IfaceThree Tryd.prog Tryd.laysGt18_ren T rv gl gs enc lt) :
    ∀ (N blk off a b limit : Nat) (d : Array α) (w : World), b - a < N → LessM Tryd.prog gl rv enc lt blk off d.size w → SwapM Tryd.prog gs rv enc blk off d.size → Holds enc w blk off d → blk < w.heap.size → a ≤ b → b ≤ d.size → d.size < 4611686018427387904 → limit < 4611686018427387904 → Below lt a b d →
    Calls Tryd.prog 40 #[.iface T rv, .int .i64 a, .int .i64 b, .int .i64 limit] w fun e w' => e = .returned (.tuple #[]) ∧ At enc w blk off (pdq lt d a b limit true true) w' := Any.pdqsort_iface Tryd.laysGt18 T rv gl gs rL rS enc lt hO C
def Tryd.laysGt11_ren : Go.Shelf.Ren := ⟨fun | 11 => 31 | 17 => 39 | 18 => 40 | 31 => 44 | 32 => 45 | 33 => 46 | 34 => 47 | 35 => 48 | 36 => 49 | 37 => 50 | 38 => 51 | 39 => 52 | 40 => 53 | 43 => 54 | 44 => 55 | 45 => 56 | 46 => 57 | 47 => 58 | 50 => 59 | n => n, fun | 45 => 105 | 3 => 3 | 4 => 4 | 47 => 49 | 0 => 0 | 56 => 116 | 58 => 118 | 61 => 121 | 60 => 120 | 65 => 126 | 5 => 5 | 9 => 9 | 67 => 128 | 71 => 132 | 73 => 134 | 74 => 135 | 43 => 80 | 26 => 124 | 38 => 110 | n => n, fun | n => n⟩
theorem Tryd.laysGt11 : Go.Proofs.LaysGt.n11 Tryd.prog Tryd.laysGt11_ren := {
  mixed := by kernel_rfl
  f11 := Tryd.func31.trans (congrArg some (by kernel_rfl))
  f17 := Tryd.func39.trans (congrArg some (by kernel_rfl))
  f18 := Tryd.func40.trans (congrArg some (by kernel_rfl))
  f31 := Tryd.func44.trans (congrArg some (by kernel_rfl))
  f32 := Tryd.func45.trans (congrArg some (by kernel_rfl))
  f33 := Tryd.func46.trans (congrArg some (by kernel_rfl))
  f34 := Tryd.func47.trans (congrArg some (by kernel_rfl))
  f35 := Tryd.func48.trans (congrArg some (by kernel_rfl))
  f36 := Tryd.func49.trans (congrArg some (by kernel_rfl))
  f37 := Tryd.func50.trans (congrArg some (by kernel_rfl))
  f38 := Tryd.func51.trans (congrArg some (by kernel_rfl))
  f39 := Tryd.func52.trans (congrArg some (by kernel_rfl))
  f40 := Tryd.func53.trans (congrArg some (by kernel_rfl))
  f43 := Tryd.func54.trans (congrArg some (by kernel_rfl))
  f44 := Tryd.func55.trans (congrArg some (by kernel_rfl))
  f45 := Tryd.func56.trans (congrArg some (by kernel_rfl))
  f46 := Tryd.func57.trans (congrArg some (by kernel_rfl))
  f47 := Tryd.func58.trans (congrArg some (by kernel_rfl))
  f50 := Tryd.func59.trans (congrArg some (by kernel_rfl))
  t0 := Tryd.underlying0
  a0 := Tryd.isAgg0
  z0 := Tryd.sizeOf0
  v0 := Tryd.zeroValue0
  i0 := by kernel_rfl
  t3 := Tryd.underlying3
  a3 := Tryd.isAgg3
  z3 := Tryd.sizeOf3
  v3 := Tryd.zeroValue3
  i3 := by kernel_rfl
  t4 := Tryd.underlying4
  a4 := Tryd.isAgg4
  z4 := Tryd.sizeOf4
  v4 := Tryd.zeroValue4
  i4 := by kernel_rfl
  t5 := Tryd.underlying5
  a5 := Tryd.isAgg5
  z5 := Tryd.sizeOf5
  v5 := Tryd.zeroValue5
  i5 := by kernel_rfl
  t9 := Tryd.underlying9
  a9 := Tryd.isAgg9
  z9 := Tryd.sizeOf9
  v9 := Tryd.zeroValue9
  i9 := by kernel_rfl
  t26 := Tryd.underlying124
  a26 := Tryd.isAgg124
  z26 := Tryd.sizeOf124
  v26 := Tryd.zeroValue124
  i26 := by kernel_rfl
  t38 := Tryd.underlying110
  a38 := Tryd.isAgg110
  z38 := Tryd.sizeOf110
  v38 := Tryd.zeroValue110
  i38 := by kernel_rfl
  t43 := Tryd.underlying80
  a43 := Tryd.isAgg80
  z43 := Tryd.sizeOf80
  v43 := Tryd.zeroValue80
  i43 := by kernel_rfl
  t45 := Tryd.underlying105
  a45 := Tryd.isAgg105
  z45 := Tryd.sizeOf105
  v45 := Tryd.zeroValue105
  i45 := by kernel_rfl
  t47 := Tryd.underlying49
  a47 := Tryd.isAgg49
  z47 := Tryd.sizeOf49
  v47 := Tryd.zeroValue49
  i47 := by kernel_rfl
  t56 := Tryd.underlying116
  a56 := Tryd.isAgg116
  z56 := Tryd.sizeOf116
  v56 := Tryd.zeroValue116
  i56 := by kernel_rfl
  t58 := Tryd.underlying118
  a58 := Tryd.isAgg118
  z58 := Tryd.sizeOf118
  v58 := Tryd.zeroValue118
  i58 := by kernel_rfl
  t60 := Tryd.underlying120
  a60 := Tryd.isAgg120
  z60 := Tryd.sizeOf120
  v60 := Tryd.zeroValue120
  i60 := by kernel_rfl
  t61 := Tryd.underlying121
  a61 := Tryd.isAgg121
  z61 := Tryd.sizeOf121
  v61 := Tryd.zeroValue121
  i61 := by kernel_rfl
  t65 := Tryd.underlying126
  a65 := Tryd.isAgg126
  z65 := Tryd.sizeOf126
  v65 := Tryd.zeroValue126
  i65 := by kernel_rfl
  t67 := Tryd.underlying128
  a67 := Tryd.isAgg128
  z67 := Tryd.sizeOf128
  v67 := Tryd.zeroValue128
  i67 := by kernel_rfl
  t71 := Tryd.underlying132
  a71 := Tryd.isAgg132
  z71 := Tryd.sizeOf132
  v71 := Tryd.zeroValue132
  i71 := by kernel_rfl
  t73 := Tryd.underlying134
  a73 := Tryd.isAgg134
  z73 := Tryd.sizeOf134
  v73 := Tryd.zeroValue134
  i73 := by kernel_rfl
  t74 := Tryd.underlying135
  a74 := Tryd.isAgg135
  z74 := Tryd.sizeOf135
  v74 := Tryd.zeroValue135
  i74 := by kernel_rfl }
open Go.RowKit Go.Lib Go.Sort in
theorem Tryd.sort_Sort_tiny {α : Type} [Inhabited α] (T : TypeId) (rv : Value) (gn : Nat) (rN : Reaches Tryd.prog T rv "Len" gn) (n : Nat) (hn : n ≤ 1) (w : World) (hlen : LenM Tryd.prog gn rv n w) :
    Calls Tryd.prog 31 #[.iface T rv] w fun e w' => e = .returned (.tuple #[]) ∧ ∃ q, w' = w.drewN q := Any.sort_Sort_tiny Tryd.laysGt11 T rv gn rN n hn w hlen
open Go.RowKit Go.Lib Go.Sort in
/-- **sort.Sort: WHAT THE ROW HOLDS, TO THE ELEMENT.** (LAID: no walk: one application.) -/
theorem Tryd.sort_Sort_eq {α : Type} [Inhabited α] (T : TypeId) (rv : Value) (gn gl gs : Nat) (rN : Reaches Tryd.prog T rv "Len" gn) (rL : Reaches Tryd.prog T rv "Less" gl) (rS : Reaches Tryd.prog T rv "Swap" gs) (enc : α → Value) (lt : α → α → Bool) (hO : SWO lt) (blk off : Nat) (d : Array α) (h2 : 2 ≤ d.size) (hsz : d.size < 4611686018427387904) (w : World) (hlen : LenM Tryd.prog gn rv d.size w) (hless : LessM Tryd.prog gl rv enc lt blk off d.size w) (hswap : SwapM Tryd.prog gs rv enc blk off d.size) (hH : Holds enc w blk off d) (hblk : blk < w.heap.size) :
    Calls Tryd.prog 31 #[.iface T rv] w fun e w' => e = .returned (.tuple #[]) ∧ ∃ n os, w' = grow (putRow enc (Sort.ahead w n) blk off (pdq lt d 0 d.size (Lib.bitLen d.size) true true)) os := Any.sort_Sort_eq Tryd.laysGt11 T rv gn gl gs rN rL rS enc lt hO blk off d h2 hsz w hlen hless hswap hH hblk
open Go.RowKit Go.Lib Go.Sort in
/-- **sort.Sort, IN THE DOCUMENTATION's OWN TERMS ("Sort sorts data in ascending order as determined by the Less method. .. The sort is not guaranteed to be stable"): A PERMUTATION OF WHAT THE ROW HELD, SORTED BY 'lt'.** (LAID: no walk: one application.) -/
theorem Tryd.sort_Sort_sorted {α : Type} [Inhabited α] (T : TypeId) (rv : Value) (gn gl gs : Nat) (rN : Reaches Tryd.prog T rv "Len" gn) (rL : Reaches Tryd.prog T rv "Less" gl) (rS : Reaches Tryd.prog T rv "Swap" gs) (enc : α → Value) (lt : α → α → Bool) (hO : SWO lt) (blk off : Nat) (d : Array α) (h2 : 2 ≤ d.size) (hsz : d.size < 4611686018427387904) (w : World) (hlen : LenM Tryd.prog gn rv d.size w) (hless : LessM Tryd.prog gl rv enc lt blk off d.size w) (hswap : SwapM Tryd.prog gs rv enc blk off d.size) (hH : Holds enc w blk off d) (hblk : blk < w.heap.size) :
    Calls Tryd.prog 31 #[.iface T rv] w fun e w' => e = .returned (.tuple #[]) ∧ ∃ d' n os, PermIn 0 d.size d d' ∧ SortedIn lt 0 d.size d' ∧ w' = grow (putRow enc (Sort.ahead w n) blk off d') os := Any.sort_Sort_sorted Tryd.laysGt11 T rv gn gl gs rN rL rS enc lt hO blk off d h2 hsz w hlen hless hswap hH hblk
def Tryd.laysGg36_ren : Go.Shelf.Ren := ⟨fun | 36 => 56 | n => n, fun | 66 => 134 | 51 => 118 | 0 => 0 | 60 => 128 | 41 => 49 | n => n, fun | n => n⟩
theorem Tryd.laysGg36 : Go.Proofs.LaysGg.n36 Tryd.prog Tryd.laysGg36_ren := {
  mixed := by kernel_rfl
  f36 := Tryd.func56.trans (congrArg some (by kernel_rfl))
  t0 := Tryd.underlying0
  a0 := Tryd.isAgg0
  z0 := Tryd.sizeOf0
  v0 := Tryd.zeroValue0
  i0 := by kernel_rfl
  t41 := Tryd.underlying49
  a41 := Tryd.isAgg49
  z41 := Tryd.sizeOf49
  v41 := Tryd.zeroValue49
  i41 := by kernel_rfl
  t51 := Tryd.underlying118
  a51 := Tryd.isAgg118
  z51 := Tryd.sizeOf118
  v51 := Tryd.zeroValue118
  i51 := by kernel_rfl
  t60 := Tryd.underlying128
  a60 := Tryd.isAgg128
  z60 := Tryd.sizeOf128
  v60 := Tryd.zeroValue128
  i60 := by kernel_rfl
  t66 := Tryd.underlying134
  a66 := Tryd.isAgg134
  z66 := Tryd.sizeOf134
  v66 := Tryd.zeroValue134
  i66 := by kernel_rfl }
open Go.RowKit Go.Lib Go.Sort in
/-- '*r ^= *r << 13; *r ^= *r >> 7; *r ^= *r << 17; return uint64(*r)': the cell holds 'xorNextN X' and that is handed back; three draws; nothing else turns. (LAID: no walk: one application.) -/
theorem Tryd.xorshift_Next (rb ro X : Nat) (hX : X < 18446744073709551616) (w : World) (hc : w.cell? ⟨rb, ro, none⟩ = some (.int .u64 X)) (hf : w.frozen? ⟨rb, ro, none⟩ = false) :
    Calls Tryd.prog 56 #[.pointer (some ⟨rb, ro, none⟩)] w fun e w' => e = .returned (.int .u64 (xorNextN X : Nat)) ∧ w' = (w.setCell ⟨rb, ro, none⟩ (.int .u64 (xorNextN X : Nat))).drewN 3 := Any.xorshift_Next Tryd.laysGg36 rb ro X hX w hc hf
def Tryd.laysGg35_ren : Go.Shelf.Ren := ⟨fun | 35 => 55 | 13 => 39 | 24 => 44 | 25 => 45 | n => n, fun | 3 => 3 | 41 => 49 | 49 => 116 | 51 => 118 | 4 => 4 | 5 => 5 | 9 => 9 | n => n, fun | n => n⟩
theorem Tryd.laysGg35 : Go.Proofs.LaysGg.n35 Tryd.prog Tryd.laysGg35_ren := {
  mixed := by kernel_rfl
  f13 := Tryd.func39.trans (congrArg some (by kernel_rfl))
  f24 := Tryd.func44.trans (congrArg some (by kernel_rfl))
  f25 := Tryd.func45.trans (congrArg some (by kernel_rfl))
  f35 := Tryd.func55.trans (congrArg some (by kernel_rfl))
  t3 := Tryd.underlying3
  a3 := Tryd.isAgg3
  z3 := Tryd.sizeOf3
  v3 := Tryd.zeroValue3
  i3 := by kernel_rfl
  t4 := Tryd.underlying4
  a4 := Tryd.isAgg4
  z4 := Tryd.sizeOf4
  v4 := Tryd.zeroValue4
  i4 := by kernel_rfl
  t5 := Tryd.underlying5
  a5 := Tryd.isAgg5
  z5 := Tryd.sizeOf5
  v5 := Tryd.zeroValue5
  i5 := by kernel_rfl
  t9 := Tryd.underlying9
  a9 := Tryd.isAgg9
  z9 := Tryd.sizeOf9
  v9 := Tryd.zeroValue9
  i9 := by kernel_rfl
  t41 := Tryd.underlying49
  a41 := Tryd.isAgg49
  z41 := Tryd.sizeOf49
  v41 := Tryd.zeroValue49
  i41 := by kernel_rfl
  t49 := Tryd.underlying116
  a49 := Tryd.isAgg116
  z49 := Tryd.sizeOf116
  v49 := Tryd.zeroValue116
  i49 := by kernel_rfl
  t51 := Tryd.underlying118
  a51 := Tryd.isAgg118
  z51 := Tryd.sizeOf118
  v51 := Tryd.zeroValue118
  i51 := by kernel_rfl }
open Go.RowKit Go.Lib Go.Sort in
/-- 'return 1 << bits.Len(uint(length))'. (LAID: no walk: one application.) -/
theorem Tryd.nextPowerOfTwo (n : Nat) (hn : n < 4611686018427387904) (w : World) :
    Calls Tryd.prog 55 #[.int .i64 n] w fun e w' => e = .returned (.int .u64 ((1 <<< bitsLen n : Nat) : Int)) ∧ w' = w := Any.nextPowerOfTwo Tryd.laysGg35 n hn w
def Tryd.laysGt43_ren : Go.Shelf.Ren := ⟨fun | 43 => 54 | n => n, fun | 45 => 105 | 3 => 3 | 4 => 4 | 0 => 0 | 43 => 80 | 26 => 124 | 38 => 110 | n => n, fun | n => n⟩
theorem Tryd.laysGt43 : Go.Proofs.LaysGt.n43 Tryd.prog Tryd.laysGt43_ren := {
  mixed := by kernel_rfl
  f43 := Tryd.func54.trans (congrArg some (by kernel_rfl))
  t0 := Tryd.underlying0
  a0 := Tryd.isAgg0
  z0 := Tryd.sizeOf0
  v0 := Tryd.zeroValue0
  i0 := by kernel_rfl
  t3 := Tryd.underlying3
  a3 := Tryd.isAgg3
  z3 := Tryd.sizeOf3
  v3 := Tryd.zeroValue3
  i3 := by kernel_rfl
  t4 := Tryd.underlying4
  a4 := Tryd.isAgg4
  z4 := Tryd.sizeOf4
  v4 := Tryd.zeroValue4
  i4 := by kernel_rfl
  t26 := Tryd.underlying124
  a26 := Tryd.isAgg124
  z26 := Tryd.sizeOf124
  v26 := Tryd.zeroValue124
  i26 := by kernel_rfl
  t38 := Tryd.underlying110
  a38 := Tryd.isAgg110
  z38 := Tryd.sizeOf110
  v38 := Tryd.zeroValue110
  i38 := by kernel_rfl
  t43 := Tryd.underlying80
  a43 := Tryd.isAgg80
  z43 := Tryd.sizeOf80
  v43 := Tryd.zeroValue80
  i43 := by kernel_rfl
  t45 := Tryd.underlying105
  a45 := Tryd.isAgg105
  z45 := Tryd.sizeOf105
  v45 := Tryd.zeroValue105
  i45 := by kernel_rfl }
open Go.RowKit Go.Lib Go.Sort in
theorem Tryd.siftDown_iface {α : Type} [Inhabited α] (T : TypeId) (rv : Value) (gl gs : Nat) (rL : Reaches Tryd.prog T rv "Less" gl) (rS : Reaches Tryd.prog T rv "Swap" gs) (enc : α → Value) (lt : α → α → Bool) (blk off lo hi first : Nat) (d : Array α) (w : World) (hless : LessM Tryd.prog gl rv enc lt blk off d.size w) (hswap : SwapM Tryd.prog gs rv enc blk off d.size) (hH : Holds enc w blk off d) (hlo : lo ≤ hi) (hb : first + hi ≤ d.size) (hsz : d.size < 4611686018427387904) :
    Calls Tryd.prog 54 #[.iface T rv, .int .i64 lo, .int .i64 hi, .int .i64 first] w fun e w' =>
      e = .returned (.tuple #[]) ∧ ∃ n, w' = putRow enc (Sort.ahead w n) blk off (siftDown lt hi first lo d) := Any.siftDown_iface Tryd.laysGt43 T rv gl gs rL rS enc lt blk off lo hi first d w hless hswap hH hlo hb hsz
open Go.RowKit Go.Lib Go.Sort in
/-- sort.siftDown, from a world to a 'sortWorld' of it. (LAID: no walk: one application.) -/
theorem Tryd.siftDown_iface_w {α : Type} [Inhabited α] (T : TypeId) (rv : Value) (gl gs : Nat) (rL : Reaches Tryd.prog T rv "Less" gl) (rS : Reaches Tryd.prog T rv "Swap" gs) (enc : α → Value) (lt : α → α → Bool) (blk off lo hi first : Nat) (d : Array α) (w : World) (hless : LessM Tryd.prog gl rv enc lt blk off d.size w) (hswap : SwapM Tryd.prog gs rv enc blk off d.size) (hH : Holds enc w blk off d) (hlo : lo ≤ hi) (hb : first + hi ≤ d.size) (hsz : d.size < 4611686018427387904) :
    Calls Tryd.prog 54 #[.iface T rv, .int .i64 lo, .int .i64 hi, .int .i64 first] w fun e w' => e = .returned (.tuple #[]) ∧ ∃ n os, w' = sortWorld enc w blk off n (siftDown lt hi first lo d) os := Any.siftDown_iface_w Tryd.laysGt43 T rv gl gs rL rS enc lt blk off lo hi first d w hless hswap hH hlo hb hsz
def Tryd.laysGt34_ren : Go.Shelf.Ren := ⟨fun | 34 => 47 | 43 => 54 | n => n, fun | 45 => 105 | 3 => 3 | 4 => 4 | 0 => 0 | 43 => 80 | 26 => 124 | 38 => 110 | n => n, fun | n => n⟩
theorem Tryd.laysGt34 : Go.Proofs.LaysGt.n34 Tryd.prog Tryd.laysGt34_ren := {
  mixed := by kernel_rfl
  f34 := Tryd.func47.trans (congrArg some (by kernel_rfl))
  f43 := Tryd.func54.trans (congrArg some (by kernel_rfl))
  t0 := Tryd.underlying0
  a0 := Tryd.isAgg0
  z0 := Tryd.sizeOf0
  v0 := Tryd.zeroValue0
  i0 := by kernel_rfl
  t3 := Tryd.underlying3
  a3 := Tryd.isAgg3
  z3 := Tryd.sizeOf3
  v3 := Tryd.zeroValue3
  i3 := by kernel_rfl
  t4 := Tryd.underlying4
  a4 := Tryd.isAgg4
  z4 := Tryd.sizeOf4
  v4 := Tryd.zeroValue4
  i4 := by kernel_rfl
  t26 := Tryd.underlying124
  a26 := Tryd.isAgg124
  z26 := Tryd.sizeOf124
  v26 := Tryd.zeroValue124
  i26 := by kernel_rfl
  t38 := Tryd.underlying110
  a38 := Tryd.isAgg110
  z38 := Tryd.sizeOf110
  v38 := Tryd.zeroValue110
  i38 := by kernel_rfl
  t43 := Tryd.underlying80
  a43 := Tryd.isAgg80
  z43 := Tryd.sizeOf80
  v43 := Tryd.zeroValue80
  i43 := by kernel_rfl
  t45 := Tryd.underlying105
  a45 := Tryd.isAgg105
  z45 := Tryd.sizeOf105
  v45 := Tryd.zeroValue105
  i45 := by kernel_rfl }
open Go.RowKit Go.Lib Go.Sort in
theorem Tryd.heapSort_iface_w {α : Type} [Inhabited α] (T : TypeId) (rv : Value) (gl gs : Nat) (rL : Reaches Tryd.prog T rv "Less" gl) (rS : Reaches Tryd.prog T rv "Swap" gs) (enc : α → Value) (lt : α → α → Bool) (blk off a b : Nat) (d : Array α) (w : World) (hless : LessM Tryd.prog gl rv enc lt blk off d.size w) (hswap : SwapM Tryd.prog gs rv enc blk off d.size) (hH : Holds enc w blk off d) (hblk : blk < w.heap.size) (hab : a ≤ b) (hb : b ≤ d.size) (hsz : d.size < 4611686018427387904) :
    Calls Tryd.prog 47 #[.iface T rv, .int .i64 a, .int .i64 b] w fun e w' => e = .returned (.tuple #[]) ∧ ∃ n os, w' = sortWorld enc w blk off n (heapSort lt d a b) os := Any.heapSort_iface_w Tryd.laysGt34 T rv gl gs rL rS enc lt blk off a b d w hless hswap hH hblk hab hb hsz
def Tryd.laysGt38_ren : Go.Shelf.Ren := ⟨fun | 38 => 51 | n => n, fun | 45 => 105 | 3 => 3 | 4 => 4 | 0 => 0 | 43 => 80 | 26 => 124 | 38 => 110 | n => n, fun | n => n⟩
theorem Tryd.laysGt38 : Go.Proofs.LaysGt.n38 Tryd.prog Tryd.laysGt38_ren := {
  mixed := by kernel_rfl
  f38 := Tryd.func51.trans (congrArg some (by kernel_rfl))
  t0 := Tryd.underlying0
  a0 := Tryd.isAgg0
  z0 := Tryd.sizeOf0
  v0 := Tryd.zeroValue0
  i0 := by kernel_rfl
  t3 := Tryd.underlying3
  a3 := Tryd.isAgg3
  z3 := Tryd.sizeOf3
  v3 := Tryd.zeroValue3
  i3 := by kernel_rfl
  t4 := Tryd.underlying4
  a4 := Tryd.isAgg4
  z4 := Tryd.sizeOf4
  v4 := Tryd.zeroValue4
  i4 := by kernel_rfl
  t26 := Tryd.underlying124
  a26 := Tryd.isAgg124
  z26 := Tryd.sizeOf124
  v26 := Tryd.zeroValue124
  i26 := by kernel_rfl
  t38 := Tryd.underlying110
  a38 := Tryd.isAgg110
  z38 := Tryd.sizeOf110
  v38 := Tryd.zeroValue110
  i38 := by kernel_rfl
  t43 := Tryd.underlying80
  a43 := Tryd.isAgg80
  z43 := Tryd.sizeOf80
  v43 := Tryd.zeroValue80
  i43 := by kernel_rfl
  t45 := Tryd.underlying105
  a45 := Tryd.isAgg105
  z45 := Tryd.sizeOf105
  v45 := Tryd.zeroValue105
  i45 := by kernel_rfl }
open Go.RowKit Go.Lib Go.Sort in
theorem Tryd.partialInsertionSort_iface {α : Type} [Inhabited α] (T : TypeId) (rv : Value) (gl gs : Nat) (rL : Reaches Tryd.prog T rv "Less" gl) (rS : Reaches Tryd.prog T rv "Swap" gs) (enc : α → Value) (lt : α → α → Bool) (blk off a b : Nat) (d : Array α) (w : World) (hless : LessM Tryd.prog gl rv enc lt blk off d.size w) (hswap : SwapM Tryd.prog gs rv enc blk off d.size) (hH : Holds enc w blk off d) (hab : a < b) (hb : b ≤ d.size) (hsz : d.size < 4611686018427387904) :
    Calls Tryd.prog 51 #[.iface T rv, .int .i64 a, .int .i64 b] w fun e w' =>
      e = .returned (.bool (Sort.partialInsertionSort lt d a b).2) ∧ ∃ n, w' = putRow enc (Sort.ahead w n) blk off (Sort.partialInsertionSort lt d a b).1 := Any.partialInsertionSort_iface Tryd.laysGt38 T rv gl gs rL rS enc lt blk off a b d w hless hswap hH hab hb hsz
open Go.RowKit Go.Lib Go.Sort in
/-- sort.partialInsertionSort, from a world to a 'sortWorld' of it. (LAID: no walk: one application.) -/
theorem Tryd.partialInsertionSort_iface_w {α : Type} [Inhabited α] (T : TypeId) (rv : Value) (gl gs : Nat) (rL : Reaches Tryd.prog T rv "Less" gl) (rS : Reaches Tryd.prog T rv "Swap" gs) (enc : α → Value) (lt : α → α → Bool) (blk off a b : Nat) (d : Array α) (w : World) (hless : LessM Tryd.prog gl rv enc lt blk off d.size w) (hswap : SwapM Tryd.prog gs rv enc blk off d.size) (hH : Holds enc w blk off d) (hab : a < b) (hb : b ≤ d.size) (hsz : d.size < 4611686018427387904) :
    Calls Tryd.prog 51 #[.iface T rv, .int .i64 a, .int .i64 b] w fun e w' => e = .returned (.bool (Sort.partialInsertionSort lt d a b).2) ∧ ∃ n os, w' = sortWorld enc w blk off n (Sort.partialInsertionSort lt d a b).1 os := Any.partialInsertionSort_iface_w Tryd.laysGt38 T rv gl gs rL rS enc lt blk off a b d w hless hswap hH hab hb hsz
end Go.Proofs

/-
  OnesCount64: how many bits are set.
-/
import Derived.Test.YtacjkbljokjdkaaBase
import Derived.Test.YtacjkbljokjdkaaU64
import Derived.Test.YtacjkbljokjdkaaPop64
import Derived.Laws.Bits128
import Derived.WalkSpells
namespace Go.Proofs.Ytacjkbljokjdkaa.bs
open Go.RowKit Go.Proofs.Ytacjkbljokjdkaa.base Go.Proofs.Ytacjkbljokjdkaa.bit
set_option linter.unusedVariables false

open Go.Proofs.Ytacjkbljokjdkaa.pop64
theorem wrap_lt {a : Nat} (ha : Lt64 a) : IntKind.u64.wrap (a : Int) = (a : Int) := by
  unfold Lt64 at ha
  rw [IntKind.wrap_u64]; omega
theorem stage (x c m : Nat) (hx : Lt64 x) (hm : Lt64 m) (hs : Lt64 ((x / c &&& m) + (x &&& m))) : IntKind.u64.wrap (bits .and .u64 ((x : Int) / (c : Int)) (m : Int) + bits .and .u64 (x : Int) (m : Int)) = (((x / c &&& m) + (x &&& m) : Nat) : Int) := by
  have h1 : Lt64 (x / c) := Nat.lt_of_le_of_lt (Nat.div_le_self _ _) hx
  rw [← Int.natCast_ediv, and_nat h1 hm, and_nat hx hm, ← Int.natCast_add, wrap_lt hs]
theorem stage3 (x c m : Nat) (hm : Lt64 m) (hs : Lt64 (x / c + x)) : bits .and .u64 (IntKind.u64.wrap ((x : Int) / (c : Int) + (x : Int))) (m : Int) = (((x / c + x) &&& m : Nat) : Int) := by
  rw [← Int.natCast_ediv, ← Int.natCast_add, wrap_lt hs, and_nat hs hm]
theorem stage4 (x c : Nat) (hs : Lt64 (x + x / c)) : IntKind.u64.wrap ((x : Int) + (x : Int) / (c : Int)) = ((x + x / c : Nat) : Int) := by
  rw [← Int.natCast_ediv, ← Int.natCast_add, wrap_lt hs]
theorem stage7 (x : Nat) : bits .and .i64 (wrap64 (x : Int)) 127 = ((x % 128 : Nat) : Int) := by
  rw [i64_and127]
  unfold wrap64
  omega
theorem pop_val (x : Nat) (hx : Lt64 x) :
    let X := (x : Int)
    let x1 := IntKind.u64.wrap (bits .and .u64 (X / 2) 6148914691236517205 + bits .and .u64 X 6148914691236517205)
    let x2 := IntKind.u64.wrap (bits .and .u64 (x1 / 4) 3689348814741910323 + bits .and .u64 x1 3689348814741910323)
    let x3 := bits .and .u64 (IntKind.u64.wrap (x2 / 16 + x2)) 1085102592571150095
    let x4 := IntKind.u64.wrap (x3 + x3 / 256)
    let x5 := IntKind.u64.wrap (x4 + x4 / 65536)
    let x6 := IntKind.u64.wrap (x5 + x5 / 4294967296)
    bits .and .i64 (wrap64 x6) 127 = (cnt 64 x : Int) := by
  obtain ⟨h0, h1, h2, h3, h4, h5, h6⟩ := pc_eq x hx
  rw [← h0]
  unfold pc
  dsimp only at *
  have l1 : Lt64 6148914691236517205 := by unfold Lt64; decide
  have l2 : Lt64 3689348814741910323 := by unfold Lt64; decide
  have l3 : Lt64 1085102592571150095 := by unfold Lt64; decide
  have s1 := stage x 2 6148914691236517205 hx l1 h1
  have s2 := stage _ 4 3689348814741910323 h1 l2 h2
  have s3 := stage3 _ 16 1085102592571150095 l3 h3
  have s4 := stage4 _ 256 h4
  have s5 := stage4 _ 65536 h5
  have s6 := stage4 _ 4294967296 h6
  simp only [Int.cast_ofNat_Int] at s1 s2 s3 s4 s5 s6
  rw [s1, s2, s3, s4, s5, s6, stage7]

set_option maxHeartbeats 1600000 in
theorem onesCount (x : Nat) (hx : Lt64 x) (w : World) : Calls Try.prog 70 #[.int .u64 (x : Int)] w fun e w' => e = .returned (.int .i64 (cnt 64 x : Int)) ∧ w' = w := by
  go_enter Try.func70, Try.ntmps70
  go_wp2
  go_ret
  exact ⟨ret_int (pop_val x hx), rfl⟩
end Go.Proofs.Ytacjkbljokjdkaa.bs

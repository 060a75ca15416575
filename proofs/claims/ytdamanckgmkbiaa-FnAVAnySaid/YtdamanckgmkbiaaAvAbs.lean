/-
  math.Abs (as in mg/XMgAbs):  of a small whole number, and whether it is more than 1.
-/
import Derived.Test.YtdamanckgmkbiaaAvMem
import Derived.WalkLawsBesides
import Derived.Laws.FloatBits
namespace Go.Proofs.Ytdamanckgmkbiaa.av
open Go.RowKit Go.Proofs.Ytdamanckgmkbiaa.base Go.Proofs.Ytdamanckgmkbiaa.heap Go.Proofs.Ytdamanckgmkbiaa.rows
set_option linter.unusedVariables false

def one64 : Nat := 4607182418800017408
def dAbs (d : Int) : Nat := floatOfInt .f64 (d.natAbs : Int)
def smalls : List Int := (List.range 121).map fun (i : Nat) => (i : Int) - 60
theorem smalls_mem {d : Int} (h1 : -60 ≤ d) (h2 : d ≤ 60) : d ∈ smalls := List.mem_map.2 ⟨(d + 60).toNat, List.mem_range.2 (by omega), by omega⟩
theorem abs_ok : (smalls.all fun d => bits .andNot .u64 (floatOfInt .f64 d : Int) 9223372036854775808 == (dAbs d : Int)) = true := by decide +kernel
theorem gt_ok : (smalls.all fun d => (FloatKind.f64.format.order (dAbs d) one64 == some .gt) == decide (2 ≤ d.natAbs)) = true := by decide +kernel
theorem bits_run (x : Nat) (w : World) : Sem.run Try.prog (callFunc 45 #[Value.float FloatKind.f64 x]) w = .ok (.value (.int .u64 (x : Int))) w := by kernel_rfl
theorem from_run (x : Nat) (w : World) : Sem.run Try.prog (callFunc 44 #[Value.int .u64 (x : Int)]) w = .ok (.value (.float .f64 x)) w := by kernel_rfl
set_option maxRecDepth 100000 in
theorem abs_any (d : Int) (h1 : -60 ≤ d) (h2 : d ≤ 60) (w : World) : Calls Try.prog 40 #[.float .f64 (floatOfInt .f64 d)] w fun e w' => e = .returned (.float .f64 (dAbs d)) ∧ w = w' := by
  have ha := List.all_eq_true.1 abs_ok _ (smalls_mem h1 h2)
  simp only [beq_iff_eq] at ha
  generalize floatOfInt .f64 d = x at ha ⊢
  generalize dAbs d = y at ha ⊢
  have b1 := bits_run x w
  have b2 := from_run y w
  go_enter Try.func40, Try.ntmps40
  go_wp2_with fail
  go_ret
  exact ⟨rfl, rfl⟩
end Go.Proofs.Ytdamanckgmkbiaa.av

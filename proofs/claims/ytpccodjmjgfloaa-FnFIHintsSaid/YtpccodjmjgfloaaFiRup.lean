/-
  roundUp: the next power of two.
-/
import Derived.Test.YtpccodjmjgfloaaBase
import Derived.Test.YtpccodjmjgfloaaRw
import Derived.Laws.BitsAllLaws
namespace Go.Proofs.Ytpccodjmjgfloaa.fi
open Go.RowKit Go.Proofs.Ytpccodjmjgfloaa.base Go.Proofs.Ytpccodjmjgfloaa.heap Go.Proofs.Ytpccodjmjgfloaa.rows
set_option linter.unusedVariables false

def orS (x s : Nat) : Nat := x ||| (x / 2 ^ s)
def rup (v : Nat) : Nat := orS (orS (orS (orS (orS (orS (v - 1) 1) 2) 4) 8) 16) 32 + 1
def rupOk (v : Nat) : Bool := v == 0 || (rup v == 2 ^ Nat.log2 (rup v) && decide (Nat.log2 (rup v) ≤ 12) && decide (v ≤ rup v) && decide (rup v < 2 * v || v == 1 && rup v == 1))
theorem rup_all : ((List.range 2100).all rupOk) = true := by decide +kernel
theorem rup_ok (v : Nat) (h : v < 2100) (h1 : 1 ≤ v) : ∃ e, e ≤ 12 ∧ rup v = 2 ^ e ∧ v ≤ rup v ∧ (rup v < 2 * v) := by
  have := List.all_eq_true.1 rup_all v (List.mem_range.2 h)
  unfold rupOk at this
  simp only [Bool.or_eq_true, Bool.and_eq_true, beq_iff_eq, decide_eq_true_eq] at this
  rcases this with h0 | ⟨⟨⟨a1, a2⟩, a3⟩, a4⟩
  · omega
  · exact ⟨_, a2, a1, a3, by rcases a4 with h | ⟨h, h'⟩ <;> omega⟩
theorem orS_lt {x s : Nat} (h : x < 4096) : orS x s < 4096 := by
  unfold orS
  exact Nat.or_lt_two_pow (n := 12) h (Nat.lt_of_le_of_lt (Nat.div_le_self _ _) h)
theorem orS_eq {x s : Nat} (h : x < 4096) (d : Int) (hd : d = (2 ^ s : Nat)) : bits .or .u64 (x : Int) ((x : Int) / d) = (orS x s : Int) := by
  have e : (x : Int) / d = ((x / 2 ^ s : Nat) : Int) := by rw [hd]; rfl
  rw [e, u64_or_nat x _ (by omega) (by have := Nat.div_le_self x (2 ^ s); omega)]
  rfl

set_option maxRecDepth 100000 in
set_option maxHeartbeats 1600000 in
theorem roundUp (v : Nat) (h : v < 2100) (h1 : 1 ≤ v) (w : World) : Calls Try.prog 34 #[.int .u64 (v : Int)] w fun e w' => e = .returned (.int .u64 (rup v : Int)) ∧ w = w' := by
  obtain ⟨x0, hx0⟩ : ∃ x0, x0 = v - 1 := ⟨_, rfl⟩
  have hx0' : (v : Int) - 1 = (x0 : Int) := by omega
  have b0 : x0 < 4096 := by omega
  obtain ⟨x1, hx1⟩ : ∃ x1, x1 = orS x0 1 := ⟨_, rfl⟩
  have b1 : x1 < 4096 := by rw [hx1]; exact orS_lt b0
  obtain ⟨x2, hx2⟩ : ∃ x2, x2 = orS x1 2 := ⟨_, rfl⟩
  have b2 : x2 < 4096 := by rw [hx2]; exact orS_lt b1
  obtain ⟨x3, hx3⟩ : ∃ x3, x3 = orS x2 4 := ⟨_, rfl⟩
  have b3 : x3 < 4096 := by rw [hx3]; exact orS_lt b2
  obtain ⟨x4, hx4⟩ : ∃ x4, x4 = orS x3 8 := ⟨_, rfl⟩
  have b4 : x4 < 4096 := by rw [hx4]; exact orS_lt b3
  obtain ⟨x5, hx5⟩ : ∃ x5, x5 = orS x4 16 := ⟨_, rfl⟩
  have b5 : x5 < 4096 := by rw [hx5]; exact orS_lt b4
  obtain ⟨x6, hx6⟩ : ∃ x6, x6 = orS x5 32 := ⟨_, rfl⟩
  have b6 : x6 < 4096 := by rw [hx6]; exact orS_lt b5
  have e1 := orS_eq (s := 1) b0 2 rfl
  have e2 := orS_eq (s := 2) b1 4 rfl
  have e3 := orS_eq (s := 4) b2 16 rfl
  have e4 := orS_eq (s := 8) b3 256 rfl
  have e5 := orS_eq (s := 16) b4 65536 rfl
  have e6 := orS_eq (s := 32) b5 4294967296 rfl
  rw [← hx1] at e1
  rw [← hx2] at e2
  rw [← hx3] at e3
  rw [← hx4] at e4
  rw [← hx5] at e5
  rw [← hx6] at e6
  have HR : Hid (rup v = x6 + 1) := Lib.hid (by unfold rup; rw [← hx0, ← hx1, ← hx2, ← hx3, ← hx4, ← hx5, ← hx6])
  clear hx0 hx1 hx2 hx3 hx4 hx5 hx6
  go_enter Try.func34, Try.ntmps34
  go_wp2
  go_ret
  exact ⟨by rw [HR.out]; rfl, rfl⟩
end Go.Proofs.Ytpccodjmjgfloaa.fi

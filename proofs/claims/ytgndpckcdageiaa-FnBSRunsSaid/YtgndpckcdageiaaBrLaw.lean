/-
  FnBSRuns: the law's parts.
-/
import Derived.Test.YtgndpckcdageiaaBrLInv
import Derived.Test.YtgndpckcdageiaaBrRun
import Derived.Test.YtgndpckcdageiaaBrStep
import Derived.Test.YtgndpckcdageiaaRead
namespace Go.Proofs.Ytgndpckcdageiaa.bs
open Go.RowKit Go.Proofs.Ytgndpckcdageiaa.base Go.Proofs.Ytgndpckcdageiaa.heap Go.Proofs.Ytgndpckcdageiaa.bit
open Go.Proofs.Ytgndpckcdageiaa.rows (RS OS flat_snoc flat_one flat_len T T.slice reads_t)
set_option linter.unusedVariables false
theorem slStep : SliceOf Try.prog 26 35 5 40 := SliceOf.mk (z := .agg #[.int .i64 0, .int .i64 0, .int .i64 0, .int .u64 0, .int .u64 0]) Try.underlying26 (by kernel_rfl) rfl
theorem slList : SliceOf Try.prog 31 29 1 24 := SliceOf.mk (z := .slice none 0 0) Try.underlying31 (by kernel_rfl) rfl
theorem bsAbs (n : Int) (h1 : -9223372036854775808 ≤ n) (h2 : n ≤ 9223372036854775807) (w : World) : Calls Try.prog 7 #[.int .i64 n] w (fun e w' => e = .returned (.int .i64 (absN n : Int)) ∧ w = w') := by
  unfold absN
  by_cases hn : n < 0
  · rw [if_pos hn]
    have e1 : IntKind.i64.wrap (n + 1) = n + 1 := IntWalk.i64_in _ (by omega)
    have e2 : IntKind.i64.wrap (-(n + 1)) = -(n + 1) := IntWalk.i64_in _ (by omega)
    have e3 : (((-(n + 1)).toNat : Nat) : Int) = -(n + 1) := Int.toNat_of_nonneg (by omega)
    rw [e3]
    clear e3
    have hn0 : ¬ 0 ≤ n := by omega
    go_enter Try.func7, Try.ntmps7
    go_wp2_with fail
    go_ret
    first | exact ⟨rfl, rfl⟩ | exact ⟨ret_int (by simp only [e1, e2]), rfl⟩ | exact ⟨ret_int (by omega), rfl⟩
  · rw [if_neg hn]
    have e3 : ((n.toNat : Nat) : Int) = n := Int.toNat_of_nonneg (by omega)
    rw [e3]
    clear e3
    go_enter Try.func7, Try.ntmps7
    go_wp2_with fail
    go_ret
    exact ⟨rfl, rfl⟩
theorem absN_lt {n : Int} (h1 : -9223372036854775808 ≤ n) (h2 : n ≤ 9223372036854775807) : absN n ≤ 9223372036854775807 := by
  unfold absN; split <;> omega
/-- what the numbers of a step are -/
def RawOk (r : Raw) : Prop := (-9223372036854775808 ≤ r.op ∧ r.op ≤ 9223372036854775807) ∧ (-9223372036854775808 ≤ r.on ∧ r.on ≤ 9223372036854775807) ∧ (-9223372036854775808 ≤ r.by_ ∧ r.by_ ≤ 9223372036854775807) ∧ Lt64 r.a ∧ Lt64 r.b
theorem read_raw {W : World} {cs : List Value} (hl : cs.length = 5) (h : T Try.prog W 35 cs) : ∃ x : Raw, cs = rc x ∧ RawOk x := by
  match cs, hl with
  | [v0, v1, v2, v3, v4], _ =>
    have h0 := h.field Try.underlying35 0 _ rfl
    have h1 := h.field Try.underlying35 1 _ rfl
    have h2 := h.field Try.underlying35 2 _ rfl
    have h3 := h.field Try.underlying35 3 _ rfl
    have h4 := h.field Try.underlying35 4 _ rfl
    have c : Try.prog.cellsOf 3 = 1 := by kernel_rfl
    have c2 : Try.prog.cellsOf 22 = 1 := by kernel_rfl
    simp [c, c2] at h0 h1 h2 h3 h4
    obtain ⟨n0, rfl, g0⟩ := h0.int Try.underlying3
    obtain ⟨n1, rfl, g1⟩ := h1.int Try.underlying3
    obtain ⟨n2, rfl, g2⟩ := h2.int Try.underlying3
    obtain ⟨n3, rfl, g3⟩ := h3.int Try.underlying22
    obtain ⟨n4, rfl, g4⟩ := h4.int Try.underlying22
    have k0 := wf_i64 g0
    have k1 := wf_i64 g1
    have k2 := wf_i64 g2
    have k3 := wf_u64 g3
    have k4 := wf_u64 g4
    refine ⟨⟨n0, n1, n2, n3.toNat, n4.toNat⟩, ?_, k0, k1, k2, by unfold Lt64; show n3.toNat < _; omega, by unfold Lt64; show n4.toNat < _; omega⟩
    show _ = [Value.int .i64 n0, .int .i64 n1, .int .i64 n2, .int .u64 ((n3.toNat : Nat) : Int), .int .u64 ((n4.toNat : Nat) : Int)]
    rw [Int.toNat_of_nonneg k3.1, Int.toNat_of_nonneg k4.1]
theorem read_raws {W : World} {v : Value} (h : Reads Try.prog W 26 v) : ∃ (a : Option Addr) (n cap : Nat) (l : List Raw), v = .slice a n cap ∧ RS rc 5 W a n cap l ∧ ∀ r ∈ l, RawOk r := by
  obtain ⟨a, n, cap, l, rfl, h, hp⟩ := T.slice (c := rc) (K := 5) RawOk rc_len rc_one (by omega) Try.underlying26 (by kernel_rfl) (fun cs hl ht => read_raw hl ht) (reads_t h Try.underlying26)
  exact ⟨a, n, cap, l, rfl, h, hp⟩
end Go.Proofs.Ytgndpckcdageiaa.bs

/-
  Bitsets: Equal, GetWord64AtBit; BSOf of the reference.
-/
import Derived.Test.YtgndpckcdageiaaBsSaid64
import Derived.Test.YtgndpckcdageiaaBsSet64
namespace Go.Proofs.Ytgndpckcdageiaa.bs
open Go.RowKit Go.Proofs.Ytgndpckcdageiaa.base Go.Proofs.Ytgndpckcdageiaa.heap Go.Proofs.Ytgndpckcdageiaa.bit
set_option linter.unusedVariables false

theorem word_ext {x y : Nat} (hx : Lt64 x) (hy : Lt64 y) (h : ∀ k, k < 64 → x.testBit k = y.testBit k) : x = y := by
  apply Nat.eq_of_testBit_eq
  intro i
  by_cases hi : i < 64
  · exact h i hi
  · rw [testBit_far hx (by omega), testBit_far hy (by omega)]
theorem rep_word {o : O} {b : List Bool} (hr : o.rep b) (p k : Nat) (hk : k < 64) : (o.ws.getD p 0).testBit k = b.getD (64 * p + k) false := by
  rw [← hr.bits]
  unfold bit
  rw [show (64 * p + k) / 64 = p from by omega, show (64 * p + k) % 64 = k from by omega]

theorem words_eq {o o' : O} {b : List Bool} {w w' : World} (h : o.ok w) (h' : o'.ok w') (hr : o.rep b) (hr' : o'.rep b) (p : Nat) : o.ws.getD p 0 = o'.ws.getD p 0 :=
  word_ext (h.fits.at _) (h'.fits.at _) (fun k hk => by rw [rep_word hr p k hk, rep_word hr' p k hk])

theorem words_ne {o o' : O} {b b' : List Bool} {w w' : World} (h : o.ok w) (h' : o'.ok w') (hr : o.rep b) (hr' : o'.rep b') (hl : b.length = b'.length) (hne : b ≠ b') :
    ∃ p, 64 * p < b.length ∧ o.ws.getD p 0 ≠ o'.ws.getD p 0 ∧ ∀ q, q < p → o.ws.getD q 0 = o'.ws.getD q 0 := by
  have hex : ∃ p, 64 * p < b.length ∧ o.ws.getD p 0 ≠ o'.ws.getD p 0 := by
    refine Classical.byContradiction fun hno => hne (ext_getD hl fun i hi => ?_)
    have h1 : o.ws.getD (i / 64) 0 = o'.ws.getD (i / 64) 0 := Classical.byContradiction fun h2 => hno ⟨i / 64, by omega, h2⟩
    have h3 := rep_word hr (i / 64) (i % 64) (Nat.mod_lt _ (by omega))
    have h4 := rep_word hr' (i / 64) (i % 64) (Nat.mod_lt _ (by omega))
    rw [show 64 * (i / 64) + i % 64 = i from by omega] at h3 h4
    rw [← h3, ← h4, h1]
  obtain ⟨p, hp⟩ := hex
  induction p using Nat.strongRecOn with
  | _ p ih =>
    by_cases hq : ∃ q, q < p ∧ o.ws.getD q 0 ≠ o'.ws.getD q 0
    · obtain ⟨q, hq1, hq2⟩ := hq
      exact ih q hq1 ⟨by omega, hq2⟩
    · exact ⟨p, hp.1, hp.2, fun q hq1 => Classical.byContradiction fun h2 => hq ⟨q, hq1, h2⟩⟩

set_option maxHeartbeats 400000 in
theorem wordCount (o : O) (w : World) (h : o.ok w) (hn : o.n ≤ 1048576) : Calls Try.prog 41 #[o.ptr] w fun e w' => e = .returned (.int .i64 (((o.n + 63) / 64 : Nat) : Int)) ∧ w' = w := by
  obtain ⟨c0, c1, f0, f1⟩ := h.cells
  unfold O.ptr
  go_enter Try.func41, Try.ntmps41
  go_wp2
  go_ret
  exact ⟨ret_int (by first | rfl | (push_cast; omega)), rfl⟩

/-- BSOf: a bit, false beyond the end -/
theorem bsOf (a : Option Addr) (cap : Nat) (b : List Bool) (i : Nat) (w : World) (h : RB w a b.length cap b) (hn : b.length ≤ 1048576) (hi : i ≤ 1048576) :
    Calls Try.prog 36 #[.slice a b.length cap, .int .i64 (i : Int)] w fun e w' => e = .returned (.bool (b.getD i false)) ∧ w' = w := by
  by_cases hib : i < b.length
  · obtain ⟨x, off, rfl, hx, hc⟩ := h.at (by omega)
    have c := hc i hib
    have hlt : (i : Int) < (b.length : Int) := by omega
    clear hc h
    generalize b.getD i false = y at *
    go_enter Try.func36, Try.ntmps36
    go_wp2
    go_ret
    exact ⟨rfl, rfl⟩
  · have hlt : ¬ (i : Int) < (b.length : Int) := by omega
    rw [show b.getD i false = false from by simp [Nat.le_of_not_lt hib]]
    clear h
    go_enter Try.func36, Try.ntmps36
    go_wp2
    go_ret
    exact ⟨rfl, rfl⟩
end Go.Proofs.Ytgndpckcdageiaa.bs

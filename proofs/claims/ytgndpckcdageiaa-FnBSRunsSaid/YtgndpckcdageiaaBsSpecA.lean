/-
  The reference's functions on Bits: BSList, BSSame, BSIn, BSBools, BSMake, BSOf; and zzFits6, bsBits of the statements.
-/
import Derived.Test.YtgndpckcdageiaaBsSaid64
import Derived.Laws.ResultCell
namespace Go.Proofs.Ytgndpckcdageiaa.bs
open Go.RowKit Go.Proofs.Ytgndpckcdageiaa.base Go.Proofs.Ytgndpckcdageiaa.heap Go.Proofs.Ytgndpckcdageiaa.bit
set_option linter.unusedVariables false

theorem make_bools (kl : IntKind) (k : Nat) (hk : k ≤ 1099511627776) (w : World) : (Instr.makeSlice 29 (.int kl (k : Int)) (.int kl (k : Int))).run Try.prog w =
    .ok (.slice (some ⟨w.heap.size, 0, none⟩) k k) (w.alloc (.cells (madeCells #[.bool false] k) 4)) := by
  have h := make_eq (P := Try.prog) (e := 4) (size := 1) kl kl Try.underlying29 (z := .bool false) (bytes := 1) (by kernel_rfl) k (by omega) (by omega) w
  rw [Nat.mul_one] at h
  exact h
theorem bools_list (k : Nat) : (madeCells #[Value.bool false] k).toList = B (List.replicate k false) := by
  have h := made_one (.bool false) rfl k
  rw [Nat.mul_one] at h
  rw [show (B (List.replicate k false)) = List.replicate k (.bool false) from by simp [B]]
  exact h
theorem bools_size (k : Nat) : (madeCells #[Value.bool false] k).size = k := by simp [madeCells]

/-- BSList: are two lists of numbers equal? -/
theorem bsList_yes (a a' : Option Addr) (n n' cap cap' : Nat) (l : List Nat) (w : World) (h : RU w a n cap l) (h' : RU w a' n' cap' l) (hn : n ≤ 1048576) :
    Calls Try.prog 34 #[.slice a n cap, .slice a' n' cap'] w fun e w' => e = .returned (.bool true) ∧ ∃ m, w' = w.drewN m := by
  obtain rfl : n = n' := h.2.symm.trans h'.2
  have hne : (!((n : Int) == (n : Int))) = false := by simp
  have H := Lib.hid h
  have H' := Lib.hid h'
  clear h h'
  go_enter Try.func34, Try.ntmps34
  go_wp2
  go_loopw [5] (fun i wr => ∃ (k q : Nat), k ≤ n ∧ i = .int .i64 (k : Int) ∧ wr = w.drewN q) (fun i _ => n - (intOf i).toNat)
  case atStart => exact ⟨0, 0, Nat.zero_le _, rfl, rfl⟩
  case round =>
    obtain ⟨k, q, hk, rfl, rfl⟩ := hrel
    by_cases hlt : k < n
    · obtain ⟨b, off, rfl, hb, hc⟩ := H.out.at (by omega)
      obtain ⟨b', off', rfl, hb', hc'⟩ := H'.out.at (by omega)
      have c1 := hc k hlt
      have c2 := hc' k hlt
      have hlt' : (k : Int) < (n : Int) := by omega
      clear hc hc'
      generalize l.getD k 0 = x at *
      have hx : (!((x : Int) == (x : Int))) = false := by simp
      go_wp2
      go_quiet (fail)
      go_wp2
      go_roundw
      case rel => exact ⟨k + 1, _, by omega, by go_num, rfl⟩
      case measure => simp [intOf]; omega
    · obtain rfl : k = n := by omega
      have hge : ¬ (k : Int) < (k : Int) := by omega
      go_wp2
      go_ret
      exact ⟨rfl, _, rfl⟩

theorem differ {l l' : List Nat} (hl : l.length = l'.length) (h : l ≠ l') : ∃ k, k < l.length ∧ l.getD k 0 ≠ l'.getD k 0 ∧ ∀ j, j < k → l.getD j 0 = l'.getD j 0 := by
  induction l generalizing l' with
  | nil => cases l' with
    | nil => exact absurd rfl h
    | cons y r => simp at hl
  | cons x l ih =>
    cases l' with
    | nil => simp at hl
    | cons y r =>
      by_cases hxy : x = y
      · subst hxy
        obtain ⟨k, h1, h2, h3⟩ := ih (l' := r) (by simpa using hl) (fun e => h (by rw [e]))
        refine ⟨k + 1, by simpa using h1, by simpa using h2, fun j hj => ?_⟩
        cases j with
        | zero => rfl
        | succ j => simpa using h3 j (by omega)
      · exact ⟨0, by simp, by simpa using hxy, fun j hj => by omega⟩

theorem bsList_no (a a' : Option Addr) (n n' cap cap' : Nat) (l l' : List Nat) (w : World) (h : RU w a n cap l) (h' : RU w a' n' cap' l') (hn : n ≤ 1048576) (hn' : n' ≤ 1048576) (hne : l ≠ l') :
    Calls Try.prog 34 #[.slice a n cap, .slice a' n' cap'] w fun e w' => e = .returned (.bool false) ∧ ∃ m, w' = w.drewN m := by
  by_cases hnn : n = n'
  · subst hnn
    obtain ⟨d, hd, hdne, hdeq⟩ := differ (h.2.trans h'.2.symm) hne
    have hlen := h.2
    have hdn : d < n := by omega
    have htest : (!((n : Int) == (n : Int))) = false := by simp
    have H := Lib.hid h
    have H' := Lib.hid h'
    have HD := Lib.hid hdeq
    have HDN := Lib.hid hdne
    clear h h' hdeq hdne hne hlen hd
    go_enter Try.func34, Try.ntmps34
    go_wp2
    go_loopw [5] (fun i wr => ∃ (k q : Nat), k ≤ d ∧ i = .int .i64 (k : Int) ∧ wr = w.drewN q) (fun i _ => n - (intOf i).toNat)
    case atStart => exact ⟨0, 0, Nat.zero_le _, rfl, rfl⟩
    case round =>
      obtain ⟨k, q, hk, rfl, rfl⟩ := hrel
      obtain ⟨b, off, rfl, hb, hc⟩ := H.out.at (by omega)
      obtain ⟨b', off', rfl, hb', hc'⟩ := H'.out.at (by omega)
      have c1 := hc k (by omega)
      have c2 := hc' k (by omega)
      have hlt' : (k : Int) < (n : Int) := by omega
      clear hc hc'
      by_cases hkd : k < d
      · rw [← HD.out k hkd] at c2
        generalize l.getD k 0 = x at *
        have hx : (!((x : Int) == (x : Int))) = false := by simp
        go_wp2
        go_quiet (fail)
        go_wp2
        go_roundw
        case rel => exact ⟨k + 1, _, by omega, by go_num, rfl⟩
        case measure => simp [intOf]; omega
      · obtain rfl : k = d := by omega
        have hx : (!(((l.getD k 0 : Nat) : Int) == ((l'.getD k 0 : Nat) : Int))) = true := by
          have := HDN.out
          generalize l.getD k 0 = x at *
          generalize l'.getD k 0 = y at *
          have h2 : ((x : Int) == (y : Int)) = false := by rw [beq_eq_false_iff_ne]; omega
          rw [h2]; rfl
        have hx2 : (((l.getD k 0 : Nat) : Int) != ((l'.getD k 0 : Nat) : Int)) = true := hx
        generalize l.getD k 0 = x at *
        generalize l'.getD k 0 = y at *
        go_wp2
        go_quiet (fail)
        go_wp2
        go_ret
        exact ⟨rfl, q + nq, by simp⟩
  · have htest : (!((n : Int) == (n' : Int))) = true := by
      have h2 : ((n : Int) == (n' : Int)) = false := by rw [beq_eq_false_iff_ne]; omega
      rw [h2]; rfl
    clear h h' hne
    go_enter Try.func34, Try.ntmps34
    go_wp2
    go_ret
    exact ⟨rfl, 0, rfl⟩

theorem bsList (a a' : Option Addr) (n n' cap cap' : Nat) (l l' : List Nat) (w : World) (h : RU w a n cap l) (h' : RU w a' n' cap' l') (hn : n ≤ 1048576) (hn' : n' ≤ 1048576) :
    Calls Try.prog 34 #[.slice a n cap, .slice a' n' cap'] w fun e w' => e = .returned (.bool (decide (l = l'))) ∧ ∃ m, w' = w.drewN m := by
  by_cases hl : l = l'
  · subst hl
    have := bsList_yes a a' n n' cap cap' l w h h' hn
    simpa using this
  · have := bsList_no a a' n n' cap cap' l l' w h h' hn hn' hl
    simpa [hl] using this

/-- zzFits6: the list is not too long -/
theorem fits_yes (n : Int) (a : Option Addr) (m cap : Nat) (w : World) (hm : m ≤ 2147483647) :
    Calls Try.prog 4 #[.agg #[.int .u64 n, .slice a m cap]] w (RetV (.bool true) w) := by
  go_enter Try.func4, Try.ntmps4
  go_wp2
  go_ret
  exact ⟨rfl, (Only.refl _ w).alloc _⟩
theorem fits_no (n : Int) (a : Option Addr) (m cap : Nat) (w : World) (hm : 2147483647 < m) :
    Calls Try.prog 4 #[.agg #[.int .u64 n, .slice a m cap]] w (RetV (.bool false) w) := by
  go_enter Try.func4, Try.ntmps4
  go_wp2
  go_ret
  exact ⟨rfl, (Only.refl _ w).alloc _⟩
end Go.Proofs.Ytgndpckcdageiaa.bs

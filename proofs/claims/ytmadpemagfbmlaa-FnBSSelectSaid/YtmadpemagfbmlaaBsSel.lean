/-
  Bitsets: select64: the place of the j-th set bit of a word.
-/
import Derived.Test.YtmadpemagfbmlaaBsCount
import Derived.Test.YtmadpemagfbmlaaBsCnt
import Derived.Deep.CutRange
namespace Go.Proofs.Ytmadpemagfbmlaa.bs
open Go.RowKit Go.Proofs.Ytmadpemagfbmlaa.base Go.Proofs.Ytmadpemagfbmlaa.heap Go.Proofs.Ytmadpemagfbmlaa.bit Go.Proofs.Ytmadpemagfbmlaa.pop64
set_option linter.unusedVariables false

/-- what is left to be searched: the jj-th set bit of ww, that stands from place s on -/
def Sel (w j k s ww jj : Nat) : Prop := ww < 2 ^ k ∧ jj < cnt k ww ∧ s + k ≤ 64 ∧ ∀ p, p < k → Nth ww jj p → Nth w j (s + p)
theorem Sel.start {w j : Nat} (hw : Lt64 w) (hj : j < cnt 64 w) : Sel w j 64 0 w j := ⟨hw, hj, Nat.le_refl _, fun p _ h => by rwa [Nat.zero_add]⟩
theorem cnt_lo {k x : Nat} (hk : k ≤ 64) : cnt 64 (x % 2 ^ k) = cnt k x := by
  rw [cnt_low (Nat.mod_lt _ (Nat.two_pow_pos k)) hk, cnt_mod _ (Nat.le_refl _)]
theorem Sel.lo {w j k s ww jj : Nat} (h : Sel w j (k + k) s ww jj) (hn : jj < cnt k ww) : Sel w j k s (ww % 2 ^ k) jj := by
  obtain ⟨h1, h2, h3, h4⟩ := h
  refine ⟨Nat.mod_lt _ (Nat.two_pow_pos k), by rw [cnt_mod _ (Nat.le_refl _)]; exact hn, by omega, fun p hp hN => ?_⟩
  exact h4 p (by omega) hN.lo.2
theorem Sel.hi {w j k s ww jj : Nat} (h : Sel w j (k + k) s ww jj) (hn : cnt k ww ≤ jj) : Sel w j k (s + k) (ww / 2 ^ k) (jj - cnt k ww) := by
  obtain ⟨h1, h2, h3, h4⟩ := h
  have h5 := cnt_split k k ww
  refine ⟨?_, by omega, by omega, fun p hp hN => ?_⟩
  · rw [Nat.pow_add] at h1
    exact Nat.div_lt_of_lt_mul h1
  · have h6 := h4 (k + p) (by omega) (by
      have := hN.hi
      rwa [Nat.add_sub_cancel' hn] at this)
    rwa [← Nat.add_assoc] at h6
theorem mask_nat {x k : Nat} (hx : Lt64 x) (hk : k ≤ 64) : bits .and .u64 (x : Int) ((2 ^ k - 1 : Nat) : Int) = ((x % 2 ^ k : Nat) : Int) := by
  have h1 : Lt64 (2 ^ k - 1) := by
    have : 2 ^ k ≤ 2 ^ 64 := Nat.pow_le_pow_right (by omega) hk
    have hp := Nat.two_pow_pos k
    have h64 : (2 : Nat) ^ 64 = 18446744073709551616 := by decide
    unfold Lt64; omega
  rw [and_nat hx h1, Nat.and_two_pow_sub_one_eq_mod]

set_option maxRecDepth 100000 in
set_option maxHeartbeats 3200000 in
theorem select64 (v j : Nat) (w : World) (hv : Lt64 v) (hj : j < cnt 64 v) :
    Calls Try.prog 52 #[.int .u64 (v : Int), .int .u64 (j : Int)] w fun e w' => (∃ p, p < 64 ∧ Nth v j p ∧ e = .returned (.int .u64 (p : Int))) ∧ w = w' := by
  have HS0 := Lib.hid (Sel.start hv hj)
  have hj64 : j < 64 := Nat.lt_of_lt_of_le hj (cnt_le 64 v)
  have e1 : bits .and .u64 (v : Int) 4294967295 = ((v % 2 ^ 32 : Nat) : Int) := mask_nat (k := 32) hv (by omega)
  have HC : Hid (∀ x, Lt64 x → ∀ wx, Calls Try.prog 51 #[.int .u64 (x : Int)] wx fun e w' => e = .returned (.int .i64 (cnt 64 x : Int)) ∧ wx = w') := Lib.hid (fun x hx wx => (onesCount x hx wx).mono fun e w' ⟨he, hw⟩ => ⟨he, hw.symm⟩)
  have q1 := Lib.hid (HC.out (v % 2 ^ 32) (Nat.lt_of_le_of_lt (Nat.mod_le _ _) hv))
  rw [cnt_lo (by omega)] at q1
  have hc1 := cnt_le 32 v
  have HV := Lib.hid hv
  have H1 := Lib.hid (show cnt 32 v ≤ j → Sel v j 32 32 (v / 2 ^ 32) (j - cnt 32 v) from HS0.out.hi (k := 32))
  have H2 := Lib.hid (show j < cnt 32 v → Sel v j 32 0 (v % 2 ^ 32) j from HS0.out.lo (k := 32))
  clear hv hj
  generalize v % 2 ^ 32 = lo at *
  generalize cnt 32 v = n1 at *
  go_enter Try.func52, Try.ntmps52
  go_upto_if 17 with (go_at_call 51; (with_reducible refine (q1.out _).mono ?_); rintro e w1 ⟨rfl, rfl⟩)
  go_cut [1, 5, 6] from 15 (fun a b c wx => ∃ s ww jj : Nat, a = .int .u64 (jj : Int) ∧ b = .int .i64 (s : Int) ∧ c = .int .u64 (ww : Int) ∧ Hid (Sel v j 32 s ww jj) ∧ wx = w)
  case first =>
    by_cases hle : n1 ≤ j
    · have hle' : (n1 : Int) ≤ (j : Int) := by omega
      go_wp2_with fail
      go_meet
      case rel => exact ⟨32, v / 2 ^ 32, j - n1, by go_num, by go_num, by go_num, Lib.hid (H1.out hle), rfl⟩
    · have hle' : ¬ (n1 : Int) ≤ (j : Int) := by omega
      go_wp2_with fail
      go_meet
      case rel => exact ⟨0, lo, j, rfl, rfl, rfl, Lib.hid (H2.out (by omega)), rfl⟩
  case rest =>
    obtain ⟨s, ww, jj, rfl, rfl, rfl, HS, rfl⟩ := hcut
    clear e1 q1 hc1 H1 H2 HS0
    have hs : s + 32 ≤ 64 := HS.out.2.2.1
    have hjj : jj < 32 := Nat.lt_of_lt_of_le HS.out.2.1 (cnt_le 32 ww)
    have HW : Hid (Lt64 ww) := Lib.hid (Nat.lt_of_lt_of_le HS.out.1 (by decide))
    have e1 : bits .and .u64 (ww : Int) 65535 = ((ww % 2 ^ 16 : Nat) : Int) := mask_nat (k := 16) HW.out (by omega)
    have q1 := Lib.hid (HC.out (ww % 2 ^ 16) (Nat.lt_of_le_of_lt (Nat.mod_le _ _) HW.out))
    rw [cnt_lo (by omega)] at q1
    have hc1 := cnt_le 16 ww
    have H1 := Lib.hid (show cnt 16 ww ≤ jj → Sel v j 16 (s + 16) (ww / 2 ^ 16) (jj - cnt 16 ww) from HS.out.hi (k := 16))
    have H2 := Lib.hid (show jj < cnt 16 ww → Sel v j 16 s (ww % 2 ^ 16) jj from HS.out.lo (k := 16))
    generalize ww % 2 ^ 16 = lo at *
    generalize cnt 16 ww = n1 at *
    go_upto_if 33 with (go_at_call 51; (with_reducible refine (q1.out _).mono ?_); rintro e w1 ⟨rfl, rfl⟩)
    go_cut [1, 5, 6] from 31 (fun a b c wx => ∃ s ww jj : Nat, a = .int .u64 (jj : Int) ∧ b = .int .i64 (s : Int) ∧ c = .int .u64 (ww : Int) ∧ Hid (Sel v j 16 s ww jj) ∧ wx = wc)
    case first =>
      by_cases hle : n1 ≤ jj
      · have hle' : (n1 : Int) ≤ (jj : Int) := by omega
        go_wp2_with fail
        go_meet
        case rel => exact ⟨s + 16, ww / 2 ^ 16, jj - n1, by go_num, by go_num, by go_num, Lib.hid (H1.out hle), rfl⟩
      · have hle' : ¬ (n1 : Int) ≤ (jj : Int) := by omega
        go_wp2_with fail
        go_meet
        case rel => exact ⟨s, lo, jj, rfl, rfl, rfl, Lib.hid (H2.out (by omega)), rfl⟩
    case rest =>
      clear e1 q1 hc1 H1 H2 HW HS hs hjj
      obtain ⟨s, ww, jj, rfl, rfl, rfl, HS, rfl⟩ := hcut
      have hs : s + 16 ≤ 64 := HS.out.2.2.1
      have hjj : jj < 16 := Nat.lt_of_lt_of_le HS.out.2.1 (cnt_le 16 ww)
      have HW : Hid (Lt64 ww) := Lib.hid (Nat.lt_of_lt_of_le HS.out.1 (by decide))
      have e1 : bits .and .u64 (ww : Int) 255 = ((ww % 2 ^ 8 : Nat) : Int) := mask_nat (k := 8) HW.out (by omega)
      have q1 := Lib.hid (HC.out (ww % 2 ^ 8) (Nat.lt_of_le_of_lt (Nat.mod_le _ _) HW.out))
      rw [cnt_lo (by omega)] at q1
      have hc1 := cnt_le 8 ww
      have H1 := Lib.hid (show cnt 8 ww ≤ jj → Sel v j 8 (s + 8) (ww / 2 ^ 8) (jj - cnt 8 ww) from HS.out.hi (k := 8))
      have H2 := Lib.hid (show jj < cnt 8 ww → Sel v j 8 s (ww % 2 ^ 8) jj from HS.out.lo (k := 8))
      generalize ww % 2 ^ 8 = lo at *
      generalize cnt 8 ww = n1 at *
      go_upto_if 49 with (go_at_call 51; (with_reducible refine (q1.out _).mono ?_); rintro e w1 ⟨rfl, rfl⟩)
      go_cut [1, 5, 6] from 47 (fun a b c wx => ∃ s ww jj : Nat, a = .int .u64 (jj : Int) ∧ b = .int .i64 (s : Int) ∧ c = .int .u64 (ww : Int) ∧ Hid (Sel v j 8 s ww jj) ∧ wx = wc)
      case first =>
        by_cases hle : n1 ≤ jj
        · have hle' : (n1 : Int) ≤ (jj : Int) := by omega
          go_wp2_with fail
          go_meet
          case rel => exact ⟨s + 8, ww / 2 ^ 8, jj - n1, by go_num, by go_num, by go_num, Lib.hid (H1.out hle), rfl⟩
        · have hle' : ¬ (n1 : Int) ≤ (jj : Int) := by omega
          go_wp2_with fail
          go_meet
          case rel => exact ⟨s, lo, jj, rfl, rfl, rfl, Lib.hid (H2.out (by omega)), rfl⟩
      case rest =>
        clear e1 q1 hc1 H1 H2 HW HS hs hjj
        obtain ⟨s, ww, jj, rfl, rfl, rfl, HS, rfl⟩ := hcut
        have hs : s + 8 ≤ 64 := HS.out.2.2.1
        have hjj : jj < 8 := Nat.lt_of_lt_of_le HS.out.2.1 (cnt_le 8 ww)
        have HW : Hid (Lt64 ww) := Lib.hid (Nat.lt_of_lt_of_le HS.out.1 (by decide))
        go_wp2_with fail
        go_loop [1, 9] (fun a c => ∃ k y : Nat, k ≤ 8 ∧ a = .int .u64 (y : Int) ∧ c = .int .i64 (k : Int) ∧ Hid (cnt k ww + y = jj)) (fun _ c => 8 - (intOf c).toNat)
        case atStart => exact ⟨0, jj, by omega, rfl, rfl, Lib.hid (by simp [cnt])⟩
        case round =>
          obtain ⟨k, y, hk, rfl, rfl, HY⟩ := hrel
          have hyb : y < 8 := by have := HY.out; omega
          by_cases hk8 : k < 8
          · have hk8' : (k : Int) < 8 := by omega
            have hd : ∀ x : Nat, (x : Int) / 2 ^ k = ((x / 2 ^ k : Nat) : Int) := fun x => by rw [Int.natCast_ediv, Int.natCast_pow]; rfl
            have hb : bits .and .u64 ((ww : Int) / 2 ^ k) 1 = ((ww / 2 ^ k % 2 : Nat) : Int) := by
              rw [hd]
              exact mask_nat (k := 1) (Nat.lt_of_le_of_lt (Nat.div_le_self _ _) HW.out) (by omega)
            have HT : Hid (ww / 2 ^ k % 2 = if ww.testBit k then 1 else 0) := Lib.hid (by
              rw [Nat.testBit_eq_decide_div_mod_eq]
              have := Nat.mod_lt (ww / 2 ^ k) (show 0 < 2 by omega)
              by_cases h1 : ww / 2 ^ k % 2 = 1
              · rw [h1]; rfl
              · have h0 : ww / 2 ^ k % 2 = 0 := by omega
                rw [h0]; rfl)
            have HN := Lib.hid (cnt_succ k ww)
            clear hd
            by_cases ht : ww.testBit k = true
            · have hone : ww / 2 ^ k % 2 = 1 := by rw [HT.out, if_pos ht]
              rw [hone] at hb
              by_cases hy : y = 0
              · subst hy
                go_wp2_with fail
                go_ret
                exact ⟨⟨s + k, by omega, HS.out.2.2.2 k hk8 ⟨ht, by have := HY.out; omega⟩, by go_num⟩, rfl⟩
              · have hw1 : IntKind.u64.wrap ((y : Int) - 1) = ((y - 1 : Nat) : Int) := by rw [IntKind.wrap_u64]; omega
                go_wp2_with fail
                go_round
                case rel => exact ⟨k + 1, y - 1, by omega, by go_num, by go_num, Lib.hid (by have h1 := HY.out; have h2 := HN.out; rw [if_pos ht] at h2; omega)⟩
                case measure => simp [intOf]; omega
            · have hzero : ww / 2 ^ k % 2 = 0 := by rw [HT.out, if_neg ht]
              rw [hzero] at hb
              go_wp2_with fail
              go_round
              case rel => exact ⟨k + 1, y, by omega, by go_num, by go_num, Lib.hid (by have h1 := HY.out; have h2 := HN.out; rw [if_neg ht] at h2; omega)⟩
              case measure => simp [intOf]; omega
          · obtain rfl : k = 8 := by omega
            have h1 := HY.out
            have h2 := HS.out.2.1
            omega
end Go.Proofs.Ytmadpemagfbmlaa.bs

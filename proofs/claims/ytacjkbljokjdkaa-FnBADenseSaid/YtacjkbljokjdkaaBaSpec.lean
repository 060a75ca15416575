/-
  The specification's lists of bits: asks.
-/
import Derived.Test.YtacjkbljokjdkaaBaList
import Derived.Test.YtacjkbljokjdkaaU64
import Derived.Test.YtacjkbljokjdkaaCut
import Derived.BigQuiet
namespace Go.Proofs.Ytacjkbljokjdkaa.ba
open Go.RowKit Go.Proofs.Ytacjkbljokjdkaa.base Go.Proofs.Ytacjkbljokjdkaa.heap Go.Proofs.Ytacjkbljokjdkaa.rows Go.Proofs.Ytacjkbljokjdkaa.bit Go.Proofs.Ytacjkbljokjdkaa.bs
set_option linter.unusedVariables false
/-- a number -/
abbrev uv (x : Nat) : Value := .int .u64 (x : Int)
section
variable {w : World} {a : Option Addr} {n cap : Nat} {l : List Nat}
set_option maxRecDepth 100000 in
set_option maxHeartbeats 1600000 in
theorem baAt (h : RL uv w a n cap l) (K : Nat) : Calls Try.prog 23 #[.slice a n cap, uv K] w (FV w (.int .i64 (at_ l K : Nat))) := by
  have hbd := h.bound
  have H := Lib.hid h
  obtain ⟨m, hm⟩ : ∃ m, at_ l K = m := ⟨_, rfl⟩
  have hmn : m ≤ n := by rw [← hm, ← h.2]; exact at_le l K
  have HB : Hid (∀ i x, i < m → l[i]? = some x → x < K) := Lib.hid (by rw [← hm]; exact at_below l K)
  have HS : Hid (∀ x, l[m]? = some x → K ≤ x) := Lib.hid (by rw [← hm]; exact at_stop l K)
  rw [hm]
  unfold uv
  clear h hm
  go_enter Try.func23, Try.ntmps23
  go_wp2_with fail
  go_loopw [5] (fun i wr => ∃ k : Nat, k ≤ m ∧ i = .int .i64 (k : Int) ∧ Hid (Same w wr)) (fun i _ => n - (intOf i).toNat)
  case atStart => exact ⟨0, Nat.zero_le _, rfl, Lib.hid (Only.refl _ _)⟩
  case round =>
    obtain ⟨k, hk, rfl, HO⟩ := hrel
    by_cases hlt : k < n
    · have hlt' : (k : Int) < (n : Int) := by omega
      have hk0 : (0 : Int) ≤ (k : Int) := by omega
      obtain ⟨b, off, ha, hb, hc⟩ := (H.out.still HO.out).at (by omega)
      obtain ⟨x, hx⟩ := H.out.get hlt
      have c0 := hc k x hx
      subst ha
      by_cases hkm : k < m
      · have hxK : (x : Int) < (K : Int) := by have := HB.out k x hkm hx; omega
        clear hx hc
        go_wp2_with fail
        go_roundw
        case rel => exact ⟨k + 1, by omega, by go_num, Lib.hid HO.out⟩
        case measure => simp [intOf]; omega
      · obtain rfl : k = m := by omega
        have hxK : ¬ (x : Int) < (K : Int) := by have := HS.out x hx; omega
        clear hx hc
        go_wp2_with fail
        go_ret
        exact ⟨rfl, HO.out⟩
    · have hlt' : ¬ (k : Int) < (n : Int) := by omega
      obtain rfl : k = m := by omega
      go_wp2_with fail
      go_ret
      exact ⟨rfl, HO.out⟩
set_option maxRecDepth 100000 in
set_option maxHeartbeats 1600000 in
theorem baHas (h : RL uv w a n cap l) (hs : Asc l) (K : Nat) : Calls Try.prog 17 #[.slice a n cap, uv K] w (FV w (.bool (decide (K ∈ l)))) := by
  have hbd := h.bound
  have HA := Lib.hid (baAt h K)
  have H := Lib.hid h
  have hmem := mem_at hs (k := K)
  obtain ⟨m, hm⟩ : ∃ m, at_ l K = m := ⟨_, rfl⟩
  rw [hm] at HA hmem
  have HM := Lib.hid hmem
  have hmn : m ≤ n := by rw [← hm, ← h.2]; exact at_le l K
  unfold uv
  clear h hm hmem hs
  go_enter Try.func17, Try.ntmps17
  go_wp2_with fail
  refine HA.out.mono ?_
  rintro e w1 ⟨rfl, hS⟩
  have HSS := Lib.hid hS
  clear hS
  by_cases hlt : m < n
  · have hlt' : (m : Int) < (n : Int) := by omega
    have hk0 : (0 : Int) ≤ (m : Int) := by omega
    obtain ⟨b, off, ha, hb, hc⟩ := (H.out.still HSS.out).at (by omega)
    obtain ⟨x, hx⟩ := H.out.get hlt
    have c0 := hc m x hx
    subst ha
    have HX : Hid (decide (K ∈ l) = ((x : Int) == (K : Int))) := Lib.hid (by
      have := HM.out
      rw [hx] at this
      by_cases e : x = K
      · have h1 : K ∈ l := this.2 (by rw [e])
        simp [h1, e]
      · have h1 : ¬ K ∈ l := fun h => e (by simpa using this.1 h)
        have : ¬ (x : Int) = (K : Int) := by omega
        simp [h1, this])
    clear hx hc
    go_wp2_with fail
    go_ret
    exact ⟨by rw [HX.out]; rfl, HSS.out⟩
  · have hlt' : ¬ (m : Int) < (n : Int) := by omega
    have HX : Hid (decide (K ∈ l) = false) := Lib.hid (by
      have := HM.out
      rw [List.getElem?_eq_none (by rw [H.out.2]; omega)] at this
      have h1 : ¬ K ∈ l := fun h => by cases this.1 h
      simp [h1])
    go_wp2_with fail
    go_ret
    exact ⟨by rw [HX.out]; rfl, HSS.out⟩
theorem list_ext_take {l1 l2 : List Nat} {k : Nat} (h1 : l1.length = k) (h2 : l2.length = k) (h : l1.take k = l2.take k) : l1 = l2 := by
  rw [List.take_of_length_le (by omega), List.take_of_length_le (by omega)] at h; exact h
set_option maxRecDepth 100000 in
set_option maxHeartbeats 1600000 in
theorem baSame {b : Option Addr} {m cb : Nat} {l2 : List Nat} (h : RL uv w a n cap l) (h2 : RL uv w b m cb l2) : Calls Try.prog 12 #[.slice a n cap, .slice b m cb] w (FV w (.bool (decide (l = l2)))) := by
  have hbd := h.bound
  have hbd2 := h2.bound
  have H := Lib.hid h
  have H2 := Lib.hid h2
  clear h h2
  by_cases hnm : n = m
  · have hnm' : (n : Int) = (m : Int) := by omega
    subst hnm
    go_enter Try.func12, Try.ntmps12
    go_wp2_with fail
    go_loopw [5] (fun i wr => ∃ k : Nat, k ≤ n ∧ i = .int .i64 (k : Int) ∧ Hid (Same w wr ∧ l.take k = l2.take k)) (fun i _ => n - (intOf i).toNat)
    case atStart => exact ⟨0, Nat.zero_le _, rfl, Lib.hid ⟨Only.refl _ _, by simp⟩⟩
    case round =>
      obtain ⟨k, hk, rfl, HO⟩ := hrel
      by_cases hlt : k < n
      · have hlt' : (k : Int) < (n : Int) := by omega
        have hk0 : (0 : Int) ≤ (k : Int) := by omega
        obtain ⟨b1, o1, ha1, hb1, hc1⟩ := (H.out.still HO.out.1).at (by omega)
        obtain ⟨b2, o2, ha2, hb2, hc2⟩ := (H2.out.still HO.out.1).at (by omega)
        obtain ⟨x, hx⟩ := H.out.get hlt
        obtain ⟨y, hy⟩ := H2.out.get hlt
        have c1 := hc1 k x hx
        have c2 := hc2 k y hy
        subst ha1
        subst ha2
        have HXY := Lib.hid (And.intro hx hy)
        by_cases hxy : x = y
        · subst hxy
          have HO2 : Hid (Same w wr ∧ l.take (k + 1) = l2.take (k + 1)) := Lib.hid ⟨HO.out.1, by rw [take_snoc l k x hx, take_snoc l2 k x hy, HO.out.2]⟩
          clear hx hy hc1 hc2
          go_wp2_with fail
          go_quiet (fail)
          go_wp2_with fail
          go_roundw
          case rel => exact ⟨k + 1, by omega, by go_num, Lib.hid ⟨HO2.out.1.drewN _, HO2.out.2⟩⟩
          case measure => simp [intOf]; omega
        · have hxy' : ((x : Int) == (y : Int)) = false := by rw [beq_eq_false_iff_ne]; omega
          have hxy2 : ¬ (x : Int) = (y : Int) := by omega
          have HX : Hid (decide (l = l2) = false) := Lib.hid (by
            have : ¬ l = l2 := fun e => by subst e; rw [hx] at hy; exact hxy (Option.some.inj hy)
            simp [this])
          clear hx hy hc1 hc2
          go_wp2_with fail
          go_quiet (fail)
          go_wp2_with fail
          go_ret
          exact ⟨by rw [HX.out]; rfl, HO.out.1.drewN _⟩
      · have hlt' : ¬ (k : Int) < (n : Int) := by omega
        obtain rfl : k = n := by omega
        have HX : Hid (decide (l = l2) = true) := Lib.hid (by simp [list_ext_take H.out.2 H2.out.2 HO.out.2])
        go_wp2_with fail
        go_ret
        exact ⟨by rw [HX.out]; rfl, HO.out.1⟩
  · have hnm' : ((n : Int) == (m : Int)) = false := by rw [beq_eq_false_iff_ne]; omega
    have hnm2 : ¬ (n : Int) = (m : Int) := by omega
    have HX : Hid (decide (l = l2) = false) := Lib.hid (by
      have : ¬ l = l2 := fun e => hnm (by rw [← H.out.2, ← H2.out.2, e])
      simp [this])
    go_enter Try.func12, Try.ntmps12
    go_wp2_with fail
    go_ret
    exact ⟨by rw [HX.out]; rfl, Only.refl _ _⟩
end
end Go.Proofs.Ytacjkbljokjdkaa.ba

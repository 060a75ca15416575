/-
  BASame: nothing but draws.
-/
import Derived.Test.YtacjkbljokjdkaaBaSpec
namespace Go.Proofs.Ytacjkbljokjdkaa.ba
open Go.RowKit Go.Proofs.Ytacjkbljokjdkaa.base Go.Proofs.Ytacjkbljokjdkaa.heap Go.Proofs.Ytacjkbljokjdkaa.rows Go.Proofs.Ytacjkbljokjdkaa.bit Go.Proofs.Ytacjkbljokjdkaa.bs
set_option linter.unusedVariables false
theorem q_same {w wr : World} (h : ∃ m, wr = w.drewN m) : Same w wr := by obtain ⟨m, rfl⟩ := h; exact (Only.refl _ _).drewN m
theorem q_add {w wr : World} (h : ∃ m, wr = w.drewN m) (n : Nat) : ∃ m, wr.drewN n = w.drewN m := by
  obtain ⟨m, rfl⟩ := h
  exact ⟨m + n, by first | rfl | (simp [World.drewN]; omega) | simp [World.drewN_add]⟩
section
variable {w : World} {a : Option Addr} {n cap : Nat} {l : List Nat}
set_option maxRecDepth 100000 in
set_option maxHeartbeats 1600000 in
theorem baSameQ {b : Option Addr} {m cb : Nat} {l2 : List Nat} (h : RL uv w a n cap l) (h2 : RL uv w b m cb l2) : Calls Try.prog 12 #[.slice a n cap, .slice b m cb] w (fun e w' => e = .returned (.bool (decide (l = l2))) ∧ ∃ m, w' = w.drewN m) := by
  have hbd := h.bound
  have hbd2 := h2.bound
  have H := Lib.hid h
  have H2 := Lib.hid h2
  clear h h2
  by_cases hnm : n = m
  · have hnm' : (n : Int) = (m : Int) := by omega
    subst hnm
    go_enter Try.func12, Try.ntmps12
    go_wp2_with fail
    go_loopw [5] (fun i wr => ∃ k : Nat, k ≤ n ∧ i = .int .i64 (k : Int) ∧ Hid ((∃ m, wr = w.drewN m) ∧ l.take k = l2.take k)) (fun i _ => n - (intOf i).toNat)
    case atStart => exact ⟨0, Nat.zero_le _, rfl, Lib.hid ⟨⟨0, rfl⟩, by simp⟩⟩
    case round =>
      obtain ⟨k, hk, rfl, HO⟩ := hrel
      by_cases hlt : k < n
      · have hlt' : (k : Int) < (n : Int) := by omega
        have hk0 : (0 : Int) ≤ (k : Int) := by omega
        obtain ⟨b1, o1, ha1, hb1, hc1⟩ := (H.out.still (q_same HO.out.1)).at (by omega)
        obtain ⟨b2, o2, ha2, hb2, hc2⟩ := (H2.out.still (q_same HO.out.1)).at (by omega)
        obtain ⟨x, hx⟩ := H.out.get hlt
        obtain ⟨y, hy⟩ := H2.out.get hlt
        have c1 := hc1 k x hx
        have c2 := hc2 k y hy
        subst ha1
        subst ha2
        have HXY := Lib.hid (And.intro hx hy)
        by_cases hxy : x = y
        · subst hxy
          have HO2 : Hid ((∃ m, wr = w.drewN m) ∧ l.take (k + 1) = l2.take (k + 1)) := Lib.hid ⟨HO.out.1, by rw [take_snoc l k x hx, take_snoc l2 k x hy, HO.out.2]⟩
          clear hx hy hc1 hc2
          go_wp2_with fail
          go_quiet (fail)
          go_wp2_with fail
          go_roundw
          case rel => exact ⟨k + 1, by omega, by go_num, Lib.hid ⟨q_add HO2.out.1 _, HO2.out.2⟩⟩
          case measure => simp [intOf]; omega
        · have hxy' : ((x : Int) == (y : Int)) = false := by rw [beq_eq_false_iff_ne]; omega
          have hxy2 : ¬ (x : Int) = (y : Int) := by omega
          have HX : Hid (decide (l = l2) = false) := Lib.hid (by
            have : ¬ l = l2 := fun e => by subst e; rw [hx] at hy; exact hxy (Option.some.inj hy)
            simp [this])
          clear hx hy hc1 hc2
          go_wp2_with fail
          go_quiet (fail)
          go_wp2_with fail
          go_ret
          exact ⟨by rw [HX.out]; rfl, q_add HO.out.1 _⟩
      · have hlt' : ¬ (k : Int) < (n : Int) := by omega
        obtain rfl : k = n := by omega
        have HX : Hid (decide (l = l2) = true) := Lib.hid (by simp [list_ext_take H.out.2 H2.out.2 HO.out.2])
        go_wp2_with fail
        go_ret
        exact ⟨by rw [HX.out]; rfl, HO.out.1⟩
  · have hnm' : ((n : Int) == (m : Int)) = false := by rw [beq_eq_false_iff_ne]; omega
    have hnm2 : ¬ (n : Int) = (m : Int) := by omega
    have HX : Hid (decide (l = l2) = false) := Lib.hid (by
      have : ¬ l = l2 := fun e => hnm (by rw [← H.out.2, ← H2.out.2, e])
      simp [this])
    go_enter Try.func12, Try.ntmps12
    go_wp2_with fail
    go_ret
    exact ⟨by rw [HX.out]; rfl, 0, rfl⟩
end
end Go.Proofs.Ytacjkbljokjdkaa.ba

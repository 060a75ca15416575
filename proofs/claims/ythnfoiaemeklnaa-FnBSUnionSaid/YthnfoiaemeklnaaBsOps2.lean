/-
  Bitsets: Equal, GetWord64AtBit; BSOf of the reference.
-/
import Derived.Test.YthnfoiaemeklnaaBsSaid64
import Derived.Test.YthnfoiaemeklnaaBsSet64
namespace Go.Proofs.Ythnfoiaemeklnaa.bs
open Go.RowKit Go.Proofs.Ythnfoiaemeklnaa.base Go.Proofs.Ythnfoiaemeklnaa.heap Go.Proofs.Ythnfoiaemeklnaa.bit
set_option linter.unusedVariables false

theorem word_ext {x y : Nat} (hx : Lt64 x) (hy : Lt64 y) (h : ∀ k, k < 64 → x.testBit k = y.testBit k) : x = y := by
  apply Nat.eq_of_testBit_eq
  intro i
  by_cases hi : i < 64
  · exact h i hi
  · rw [testBit_far hx (by omega), testBit_far hy (by omega)]
theorem rep_word {o : O} {b : List Bool} (hr : o.rep b) (p k : Nat) (hk : k < 64) : (o.ws.getD p 0).testBit k = b.getD (64 * p + k) false := by
  rw [← hr.bits]
  unfold bit
  rw [show (64 * p + k) / 64 = p from by omega, show (64 * p + k) % 64 = k from by omega]

theorem words_eq {o o' : O} {b : List Bool} {w w' : World} (h : o.ok w) (h' : o'.ok w') (hr : o.rep b) (hr' : o'.rep b) (p : Nat) : o.ws.getD p 0 = o'.ws.getD p 0 :=
  word_ext (h.fits.at _) (h'.fits.at _) (fun k hk => by rw [rep_word hr p k hk, rep_word hr' p k hk])

theorem words_ne {o o' : O} {b b' : List Bool} {w w' : World} (h : o.ok w) (h' : o'.ok w') (hr : o.rep b) (hr' : o'.rep b') (hl : b.length = b'.length) (hne : b ≠ b') :
    ∃ p, 64 * p < b.length ∧ o.ws.getD p 0 ≠ o'.ws.getD p 0 ∧ ∀ q, q < p → o.ws.getD q 0 = o'.ws.getD q 0 := by
  have hex : ∃ p, 64 * p < b.length ∧ o.ws.getD p 0 ≠ o'.ws.getD p 0 := by
    refine Classical.byContradiction fun hno => hne (ext_getD hl fun i hi => ?_)
    have h1 : o.ws.getD (i / 64) 0 = o'.ws.getD (i / 64) 0 := Classical.byContradiction fun h2 => hno ⟨i / 64, by omega, h2⟩
    have h3 := rep_word hr (i / 64) (i % 64) (Nat.mod_lt _ (by omega))
    have h4 := rep_word hr' (i / 64) (i % 64) (Nat.mod_lt _ (by omega))
    rw [show 64 * (i / 64) + i % 64 = i from by omega] at h3 h4
    rw [← h3, ← h4, h1]
  obtain ⟨p, hp⟩ := hex
  induction p using Nat.strongRecOn with
  | _ p ih =>
    by_cases hq : ∃ q, q < p ∧ o.ws.getD q 0 ≠ o'.ws.getD q 0
    · obtain ⟨q, hq1, hq2⟩ := hq
      exact ih q hq1 ⟨by omega, hq2⟩
    · exact ⟨p, hp.1, hp.2, fun q hq1 => Classical.byContradiction fun h2 => hq ⟨q, hq1, h2⟩⟩

set_option maxHeartbeats 400000 in
theorem wordCount (o : O) (w : World) (h : o.ok w) (hn : o.n ≤ 1048576) : Calls Try.prog 71 #[o.ptr] w fun e w' => e = .returned (.int .i64 (((o.n + 63) / 64 : Nat) : Int)) ∧ w' = w := by
  obtain ⟨c0, c1, f0, f1⟩ := h.cells
  unfold O.ptr
  go_enter Try.func71, Try.ntmps71
  go_wp2
  go_ret
  exact ⟨ret_int (by first | rfl | (push_cast; omega)), rfl⟩

set_option maxRecDepth 100000 in
set_option maxHeartbeats 1600000 in
theorem equal_len (o o' : O) (w : World) (h : o.ok w) (h' : o'.ok w) (hne : o.n ≠ o'.n) :
    Calls Try.prog 46 #[o.ptr, o'.ptr] w fun e w' => e = .returned (.bool false) ∧ ∃ m, w' = w.drewN m := by
  obtain ⟨c0, c1, f0, f1⟩ := h.cells
  obtain ⟨c0', c1', f0', f1'⟩ := h'.cells
  have ht : (!((o.n : Int) == (o'.n : Int))) = true := by
    have h2 : ((o.n : Int) == (o'.n : Int)) = false := by rw [beq_eq_false_iff_ne]; omega
    rw [h2]; rfl
  have ht2 : ((o.n : Int) != (o'.n : Int)) = true := ht
  clear hne
  unfold O.ptr
  go_enter Try.func46, Try.ntmps46
  go_wp2
  go_quiet (fail)
  go_wp2
  go_ret
  exact ⟨rfl, _, rfl⟩

set_option maxRecDepth 100000 in
set_option maxHeartbeats 1600000 in
theorem equal_zero (o o' : O) (w : World) (h : o.ok w) (h' : o'.ok w) (hz : o.n = 0) (hz' : o'.n = 0) :
    Calls Try.prog 46 #[o.ptr, o'.ptr] w fun e w' => e = .returned (.bool true) ∧ ∃ m, w' = w.drewN m := by
  obtain ⟨c0, c1, f0, f1⟩ := h.cells
  obtain ⟨c0', c1', f0', f1'⟩ := h'.cells
  rw [hz] at c0
  rw [hz'] at c0'
  clear hz hz'
  unfold O.ptr
  go_enter Try.func46, Try.ntmps46
  go_wp2
  go_quiet (fail)
  go_wp2
  go_ret
  exact ⟨rfl, _, rfl⟩

set_option maxRecDepth 100000 in
set_option maxHeartbeats 1600000 in
theorem equal_some (o o' : O) (n : Nat) (d : Nat) (w : World) (h : o.ok w) (h' : o'.ok w) (hon : o.n = n) (hon' : o'.n = n) (hn0 : 0 < n) (hn : n ≤ 1048576) (hm : n ≤ 64 * o.m) (hm' : n ≤ 64 * o'.m)
    (hd : d ≤ (n + 63) / 64) (heq : ∀ q, q < d → o.ws.getD q 0 = o'.ws.getD q 0) (hdne : d < (n + 63) / 64 → o.ws.getD d 0 ≠ o'.ws.getD d 0) :
    Calls Try.prog 46 #[o.ptr, o'.ptr] w fun e w' => e = .returned (.bool (decide (d = (n + 63) / 64))) ∧ ∃ m, w' = w.drewN m := by
  obtain ⟨b, ha, hp, hb, hnb, c0, c1, f0, f1, hc, hf, hmc, hcap⟩ := h.facts
  obtain ⟨b', ha', hp', hb', hnb', c0', c1', f0', f1', hc', hf', hmc', hcap'⟩ := h'.facts
  have HWC := Lib.hid (fun wx (hx : wx.heap = w.heap) => wordCount o wx (h.of_heap hx) (by omega))
  rw [hon] at c0 HWC
  rw [hon'] at c0'
  have hz : ((n : Int) == 0) = false := by rw [beq_eq_false_iff_ne]; omega
  have hnn : (!((n : Int) == (n : Int))) = false := by simp
  have HC := Lib.hid hc
  have HC' := Lib.hid hc'
  have HE := Lib.hid heq
  have HD := Lib.hid hdne
  have hk1 : 0 < (n + 63) / 64 := by omega
  have hkm : (n + 63) / 64 ≤ o.m := by omega
  have hkm' : (n + 63) / 64 ≤ o'.m := by omega
  have hk2 : (n + 63) / 64 ≤ 1048576 := by omega
  clear hc hc' hf hf' heq hdne hon hon' hm hm'
  generalize (n + 63) / 64 = k at *
  have cl := HC.out (k - 1) (by omega)
  have cl' := HC'.out (k - 1) (by omega)
  unfold O.ptr at *
  go_enter Try.func46, Try.ntmps46
  go_wp2
  go_quiet (fail)
  go_wp2_with fail
  refine (HWC.out _ (by exact rfl)).mono ?_
  rintro e w' ⟨rfl, rfl⟩
  go_wp2_with fail
  go_loopw [6] (fun i wr => ∃ (j q : Nat), j ≤ d ∧ i = .int .i64 (j : Int) ∧ wr = w.drewN q) (fun i _ => k - (intOf i).toNat)
  case atStart => exact ⟨0, _, Nat.zero_le _, rfl, rfl⟩
  case round =>
    obtain ⟨j, q, hj, rfl, rfl⟩ := hrel
    clear cl cl'
    by_cases hjd : j < d
    · have hjk : (j : Int) < (k : Int) := by omega
      have j1 : (j : Int) < (o.m : Int) := by omega
      have j2 : (j : Int) < (o'.m : Int) := by omega
      have e1 := HC.out j (by omega)
      have e2 := HC'.out j (by omega)
      rw [← HE.out j hjd] at e2
      generalize o.ws.getD j 0 = x at *
      have hx : (!((x : Int) == (x : Int))) = false := by simp
      go_wp2
      go_quiet (fail)
      go_wp2
      go_roundw
      case rel => exact ⟨j + 1, _, by omega, by go_num, rfl⟩
      case measure => simp [intOf]; omega
    · obtain rfl : j = d := by omega
      by_cases hjk : j < k
      · have hjk' : (j : Int) < (k : Int) := by omega
        have j1 : (j : Int) < (o.m : Int) := by omega
        have j2 : (j : Int) < (o'.m : Int) := by omega
        have e1 := HC.out j (by omega)
        have e2 := HC'.out j (by omega)
        have hxy := HD.out hjk
        generalize o.ws.getD j 0 = x at *
        generalize o'.ws.getD j 0 = y at *
        have hx : (!((y : Int) == (x : Int))) = true := by
          have h2 : ((y : Int) == (x : Int)) = false := by rw [beq_eq_false_iff_ne]; omega
          rw [h2]; rfl
        have hx2 : ((y : Int) != (x : Int)) = true := hx
        have hfin : decide (j = k) = false := by simp; omega
        have HFIN := Lib.hid hfin
        clear hfin hxy
        go_wp2
        go_quiet (fail)
        go_wp2
        go_ret
        exact ⟨by rw [HFIN.out]; rfl, q + nq, by simp⟩
      · have hge : ¬ (j : Int) < (k : Int) := by omega
        obtain rfl : j = k := by omega
        go_wp2
        go_ret
        exact ⟨by simp, _, rfl⟩

theorem equal (o o' : O) (b b' : List Bool) (w : World) (h : o.ok w) (h' : o'.ok w) (hr : o.rep b) (hr' : o'.rep b') (hn : b.length ≤ 1048576) :
    Calls Try.prog 46 #[o.ptr, o'.ptr] w fun e w' => e = .returned (.bool (decide (b = b'))) ∧ ∃ m, w' = w.drewN m := by
  by_cases hl : b.length = b'.length
  · by_cases h0 : b.length = 0
    · have e1 : b = [] := List.eq_nil_of_length_eq_zero h0
      have e2 : b' = [] := List.eq_nil_of_length_eq_zero (by omega)
      have := equal_zero o o' w h h' (by rw [hr.len, h0]) (by rw [hr'.len, ← hl, h0])
      rw [e1, e2]
      simpa using this
    · by_cases hb : b = b'
      · subst hb
        have := equal_some o o' b.length ((b.length + 63) / 64) w h h' hr.len hr'.len (by omega) hn hr.room hr'.room (Nat.le_refl _) (fun q _ => words_eq h h' hr hr' q) (fun hlt => absurd hlt (Nat.lt_irrefl _))
        simpa using this
      · obtain ⟨p, hp1, hp2, hp3⟩ := words_ne h h' hr hr' hl hb
        have := equal_some o o' b.length p w h h' hr.len (by rw [hl]; exact hr'.len) (by omega) hn hr.room (by rw [hl]; exact hr'.room) (by omega) hp3 (fun _ => hp2)
        have hf : decide (p = (b.length + 63) / 64) = false := by simp; omega
        rw [hf] at this
        simpa [hb] using this
  · have := equal_len o o' w h h' (by rw [hr.len, hr'.len]; exact hl)
    have hb : b ≠ b' := fun e => hl (by rw [e])
    simpa [hb] using this

/-- BSOf: a bit, false beyond the end -/
theorem bsOf (a : Option Addr) (cap : Nat) (b : List Bool) (i : Nat) (w : World) (h : RB w a b.length cap b) (hn : b.length ≤ 1048576) (hi : i ≤ 1048576) :
    Calls Try.prog 18 #[.slice a b.length cap, .int .i64 (i : Int)] w fun e w' => e = .returned (.bool (b.getD i false)) ∧ w' = w := by
  by_cases hib : i < b.length
  · obtain ⟨x, off, rfl, hx, hc⟩ := h.at (by omega)
    have c := hc i hib
    have hlt : (i : Int) < (b.length : Int) := by omega
    clear hc h
    generalize b.getD i false = y at *
    go_enter Try.func18, Try.ntmps18
    go_wp2
    go_ret
    exact ⟨rfl, rfl⟩
  · have hlt : ¬ (i : Int) < (b.length : Int) := by omega
    rw [show b.getD i false = false from by simp [Nat.le_of_not_lt hib]]
    clear h
    go_enter Try.func18, Try.ntmps18
    go_wp2
    go_ret
    exact ⟨rfl, rfl⟩
end Go.Proofs.Ythnfoiaemeklnaa.bs

/-
  Bitsets: ShiftLeft with a bit that is set: one of its ways. (Printed by tools/shlprint.py.)
-/
import Derived.Test.YtmadpemagfbmlaaBsShlM
import Derived.Deep.RegionHeld3
namespace Go.Proofs.Ytmadpemagfbmlaa.bs
open Go.RowKit Go.Proofs.Ytmadpemagfbmlaa.base Go.Proofs.Ytmadpemagfbmlaa.heap Go.Proofs.Ytmadpemagfbmlaa.bit
set_option linter.unusedVariables false

set_option maxRecDepth 100000 in
set_option maxHeartbeats 6400000 in
theorem shift_iso (o : O) (b : List Bool) (n t : Nat) (w : World) (h : o.ok w) (hr : o.rep b) (hn : 0 < n) (hn2 : n ≤ 1000) (hb : b.length ≤ 1000) (hm : o.m = (b.length + 63) / 64) (ht : lastTo (bit o.ws) (64 * o.m) = some t) (hin : (t + n) / 64 + 1 ≤ o.m) (hext : t + n < b.length) (hr0 : 0 < n % 64) (hpad : 64 ≤ t % 64 + n % 64) :
    Calls Try.prog 21 #[o.ptr, .int .u64 (n : Int)] w fun e w' => e = .returned (.tuple #[]) ∧ ∃ d, ones d = (ones b).map (· + n) ∧ d.length ≤ 3000 ∧ Upd o d w w' := by
  have htm := lastTo_lt _ _ ht
  have hmb : o.m ≤ 16 := by omega
  have HT : Hid (Calls Try.prog 47 #[.pointer (some ⟨o.p, 0, none⟩)] w fun e w' => e = .returned (.tuple #[.int .u64 (t : Int), .bool true]) ∧ w = w') := Lib.hid ((top o (some t) w h (by omega) (Lib.hid ht)).mono fun e w' ⟨he, hw⟩ => ⟨he, hw.symm⟩)
  obtain ⟨ns, hns⟩ : ∃ ns, (t + n) / 64 + 1 = ns := ⟨_, rfl⟩
  have HN : Hid (∀ wx, Calls Try.prog 48 #[.int .u64 ((t : Int) + (n : Int) + 1)] wx fun e w' => e = .returned (.int .i64 (ns : Int)) ∧ wx = w') := Lib.hid (fun wx => by
    have := wordsNeeded (t + n + 1) (by omega) wx
    rw [show (t + n + 1 + 63) / 64 = ns from by omega] at this
    exact this.mono fun e w' ⟨he, hw⟩ => ⟨he, hw.symm⟩)
  obtain ⟨idx, hidx⟩ : ∃ idx, t / 64 = idx := ⟨_, rfl⟩
  obtain ⟨r, hrr⟩ : ∃ r, n % 64 = r := ⟨_, rfl⟩
  obtain ⟨p, hpp⟩ : ∃ p, n / 64 = p := ⟨_, rfl⟩
  obtain ⟨bb, hbb, hp, hbl, hne, c0, c1, f0, f1, hcs, hfr, hbd1, hbd2⟩ := h.facts
  have g1 : ¬ n = 0 := by omega
  have g2 : ((n : Int) == 0) = false := by rw [beq_eq_false_iff_ne]; omega
  have g3 : ¬ (t : Int) + (n : Int) < (n : Int) := by omega
  have g4 : ¬ (o.m : Int) < (ns : Int) := by omega
  have g5 : ¬ (o.n : Int) ≤ (t : Int) + (n : Int) := by rw [hr.len]; omega
  obtain ⟨N, hN⟩ : ∃ N, N = b.length := ⟨_, rfl⟩
  have HMid : Hid (∃ wL ws0, wL = w ∧ ws0 = o.ws ∧ Mid o N bb bb o.m o.cap ws0 w wL) := Lib.hid ⟨_, _, rfl, rfl, Mid.own h hbb (.inr ⟨rfl, by rw [hN, hr.len]⟩)⟩
  have HNN : Hid (N ≤ 64 * o.m ∧ b.length ≤ N ∧ t + n + 1 ≤ N ∧ N ≤ 3000) := Lib.hid (by have := hr.room; omega)
  have HSall : Hid (∀ i, Lt64 (o.ws.getD i 0)) := Lib.hid (fun i => h.fits.at i)
  have H := Lib.hid h
  have HR := Lib.hid hr
  have HTT := Lib.hid ht
  have HNE := Lib.hid (And.intro hn (And.intro hn2 hb))
  have HID := Lib.hid (show t / 64 = idx ∧ n % 64 = r ∧ n / 64 = p from ⟨hidx, hrr, hpp⟩)
  have hidxm : idx < o.m := by omega
  have hout : idx + p < o.m := by omega
  have hout2 : idx + p + 1 < o.m := by omega
  have hr64 : r < 64 := by omega
  have htb : t ≤ 1100 := by omega
  have hpb : p ≤ 16 := by omega
  have hnsb : ns ≤ 50 := by omega
  have HARITH := Lib.hid (show (t : Int) / 64 = (idx : Int) ∧ (n : Int) % 64 = ((r : Int)) ∧ (n : Int) / 64 = (p : Int) ∧ ((t : Int) % 64 = (t - 64 * idx : Nat)) ∧ t - 64 * idx < 64 from by omega)
  have HPAD := Lib.hid (show (64 : Int) ≤ (t - 64 * idx : Nat) + (r : Int) ∧ 0 < r from by omega)
  clear h hr hcs hfr htm hn hb hm ht hin hext hr0 hpad hns hidx hrr hpp hN
  unfold O.ptr
  go_enter Try.func21, Try.ntmps21
  go_upto_region 12 with (first | (go_at_call 46; (with_reducible refine (notNil2 _ _).mono ?_); rintro e w1 ⟨rfl, rfl⟩) | (go_at_call 47; (with_reducible refine HT.out.mono ?_); rintro e w1 ⟨rfl, rfl⟩) | (go_at_call 48; (with_reducible refine (HN.out _).mono ?_); rintro e w1 ⟨rfl, rfl⟩))
  obtain ⟨wL, ws0, hwL, hws0, hmid⟩ := HMid.out
  subst wL
  have HW0 : Hid (∀ j, ws0.getD j 0 = (fun j => o.ws.getD j 0) j) := Lib.hid (fun j => by rw [hws0])
  clear HMid hws0 
  obtain ⟨a0, a1, af0, af1, acs, afr⟩ := hmid.facts
  have hsrc := hmid.src
  have HMID := Lib.hid hmid
  obtain ⟨E1, E3, E4, E2, hpad⟩ := HARITH.out
  generalize t - 64 * idx = pad at *
  have g6 : ¬ r = 0 := by have := HPAD.out; omega
  have g7 := HPAD.out.1
  have x0 := hsrc idx hidxm (fun _ => HW0.out idx)
  have x1 := acs (idx + p + 1) hout2
  have fx := afr (idx + p + 1)
  generalize ws0.getD (idx + p + 1) 0 = y1 at x1
  have k1 : (idx : Int) < (o.m : Int) := by omega
  have k2 : (idx : Int) + (p : Int) + 1 < (o.m : Int) := by omega
  have k3 : ((idx : Int) + (p : Int) + 1).toNat = idx + p + 1 := by omega
  have k4 : (0 : Int) ≤ (idx : Int) + (p : Int) + 1 := by omega
  have k5 : (64 - (r : Int)).toNat = 64 - r := by omega
  have k6 : (0 : Int) ≤ 64 - (r : Int) := by omega
  have HS0 : Hid (∃ wS ws1, wS = w.setCell ⟨bb, idx + p + 1, none⟩ (.int .u64 ((o.ws.getD idx 0 : Nat) / 2 ^ (64 - r) : Int)) ∧ Mid o N bb bb o.m o.cap ws1 w wS ∧ Down o.ws (fun j => o.ws.getD j 0) r p (idx + 1) ws1) := Lib.hid (by
    have hx : Lt64 (o.ws.getD idx 0 / 2 ^ (64 - r)) := Nat.lt_of_le_of_lt (Nat.div_le_self _ _) (HSall.out idx)
    have h1 := HMID.out.store hout2 hx
    refine ⟨_, _, rfl, by push_cast at h1; exact h1, Down.start H.out HTT.out HID.out.1 HPAD.out.2 (fun j hj => over_top H.out HTT.out HID.out.1 j hj) (fun j hj => ?_) ?_⟩
    · refine Eq.trans ?_ (HW0.out j)
      simp only [List.getD_eq_getElem?_getD]; rw [List.getElem?_set_ne (by omega)]
    · have hl := HMID.out.len
      simp [List.getD_eq_getElem?_getD, List.getElem?_set, hl, hout2])
  generalize o.ws.getD idx 0 = xx at *
  clear hsrc acs afr
  go_upto_region 18 with fail
  obtain ⟨wS, ws1, hwS, hS1, hS2⟩ := HS0.out
  rw [← hwS]
  have HSS := Lib.hid (And.intro hS1 hS2)
  clear hS1 hS2 HS0 a0 a1 af0 af1 x0 x1 fx k1 k2 k3 k4 hwS hmid
  rw [E2, E3]
  try generalize decide ((t : Int) + (n : Int) < (n : Int)) = q1
  try generalize decide ((o.m : Int) < (ns : Int)) = q2
  try generalize (t : Int) + (n : Int) + 1 = q3
  try generalize (t : Int) + (n : Int) = q4
  try generalize decide ((o.n : Int) ≤ q4) = q5
  clear E1 E2 E3 E4 g1 g2 g3 g4 g5 g7
  go_wp2_with fail
  go_loopw [12] (fun i wr => ∃ (k : Nat) (ws : List Nat), k ≤ idx + 1 ∧ i = .int .i64 ((k : Int) - 1) ∧ Hid (Mid o N bb bb o.m o.cap ws w wr ∧ Down o.ws (fun j => o.ws.getD j 0) r p k ws)) (fun i _ => ((intOf i) + 1).toNat)
  case atStart => exact ⟨idx + 1, ws1, Nat.le_refl _, by go_num, Lib.hid HSS.out⟩
  case round =>
    obtain ⟨k, ws, hk, rfl, hrel⟩ := hrel
    clear HSS HMID
    obtain ⟨a0, a1, af0, af1, acs, afr⟩ := hrel.out.1.facts
    have hsrc := hrel.out.1.src
    have hlen := hrel.out.1.len
    have q6 : IntKind.i64.wrap (p : Int) = (p : Int) := by rw [IntKind.wrap_i64]; omega
    cases k with
    | zero =>
      have em : (((0 : Nat) : Int) - 1) = -1 := rfl
      rw [em]
      have HCL : Hid (Clean o.ws (fun j => o.ws.getD j 0) r p 0 ws) := Lib.hid (Clean.start hrel.out.2)
      have HMI := Lib.hid hrel.out.1
      clear hsrc a0 a1 af0 af1 acs afr hlen hrel
      go_wp2_with fail
      go_loopw [13] (fun x wx => ∃ (q : Nat) (ws' : List Nat), q ≤ p ∧ x = .int .i64 (q : Int) ∧ Hid (Mid o N bb bb o.m o.cap ws' w wx ∧ Clean o.ws (fun j => o.ws.getD j 0) r p q ws')) (fun x _ => p - (intOf x).toNat)
      case atStart => exact ⟨0, ws, Nat.zero_le _, rfl, Lib.hid ⟨HMI.out, HCL.out⟩⟩
      case round =>
        obtain ⟨q, ws', hq, rfl, hrel⟩ := hrel
        obtain ⟨a0, a1, af0, af1, acs, afr⟩ := hrel.out.1.facts
        by_cases hqp : q < p
        · have hqp' : (q : Int) < (p : Int) := by omega
          have hqm : q < o.m := by omega
          have hqm' : (q : Int) < (o.m : Int) := by omega
          have yq := acs q hqm
          have fq := afr q
          have HN1 : Hid (Mid o N bb bb o.m o.cap (ws'.set q 0) w (wr.setCell ⟨bb, q, none⟩ (.int .u64 ((0 : Nat) : Int))) ∧ Clean o.ws (fun j => o.ws.getD j 0) r p (q + 1) (ws'.set q 0)) := Lib.hid
            ⟨hrel.out.1.store hqm lt64_zero, hrel.out.2.step (by rw [hrel.out.1.len]; exact hqm) hqp⟩
          clear acs afr
          generalize ws'.getD q 0 = yo at yq
          go_wp2_with fail
          go_roundw
          case rel => exact ⟨q + 1, _, by omega, by go_num, Lib.hid HN1.out⟩
          case measure => simp [intOf]; omega
        · have hqp' : ¬ (q : Int) < (p : Int) := by omega
          obtain rfl : q = p := by omega
          have HF := Lib.hid (hrel.out.1.upd (n := n) (t := t) (N := N) H.out HR.out HTT.out (by rw [HID.out.2.1, HID.out.2.2]; exact hrel.out.2.fin) HNN.out.1 HNN.out.2.1 HNN.out.2.2.1 HNN.out.2.2.2)
          clear acs afr
          go_wp2_with fail
          go_end0
          exact ⟨rfl, HF.out⟩
    | succ k =>
      have hk1 : ((k + 1 : Nat) : Int) - 1 = (k : Int) := by omega
      rw [hk1]
      have y0 := hsrc k (by omega) (fun _ => (hrel.out.2 k).trans (if_neg (by omega)))
      have fk := afr (k + p)
      have yk := acs (k + p) (by omega)
      have q1 : (k : Int) < (o.m : Int) := by omega
      have q2 : (k : Int) + (p : Int) < (o.m : Int) := by omega
      have q3 : ((k : Int) + (p : Int)).toNat = k + p := by omega
      have q4 : (0 : Int) ≤ (k : Int) + (p : Int) := by omega
      have q5 : IntKind.i64.wrap ((k : Int) + (p : Int)) = (k : Int) + (p : Int) := by rw [IntKind.wrap_i64]; omega
      have q7 : IntKind.u64.wrap (64 - (r : Int)) = 64 - (r : Int) := by rw [IntKind.wrap_u64]; omega
      generalize ws.getD (k + p) 0 = yo at yk
      have HX2 : Hid (Lt64 (o.ws.getD (k - 1) 0)) := Lib.hid (HSall.out (k - 1))
      have hAe : ∀ v : Nat, IntKind.u64.wrap ((v : Int) * 2 ^ r) = ((v * 2 ^ r % 18446744073709551616 : Nat) : Int) := fun v => by
        rw [IntKind.wrap_u64, Int.natCast_emod, Int.natCast_mul, Int.natCast_pow]; rfl
      have A1 := hAe (o.ws.getD k 0)
      by_cases hk0 : 0 < k
      · have z0 := hsrc (k - 1) (by omega) (fun _ => (hrel.out.2 (k - 1)).trans (if_neg (by omega)))
        have m1 : IntKind.i64.wrap ((k : Int) - 1) = (k : Int) - 1 := by rw [IntKind.wrap_i64]; omega
        have m2 : ((k : Int) - 1).toNat = k - 1 := by omega
        have m3 : (k : Int) - 1 < (o.m : Int) := by omega
        have m4 : (0 : Int) ≤ (k : Int) - 1 := by omega
        have m5 : (0 : Int) < (k : Int) := by omega
        have m6 : (1 : Int) ≤ (k : Int) := by omega
        have m7 : 1 ≤ k := hk0
        have hBe : ∀ v : Nat, (v : Int) / 2 ^ (64 - r) = ((v / 2 ^ (64 - r) : Nat) : Int) := fun v => by
          rw [Int.natCast_ediv, Int.natCast_pow]; rfl
        have B1 := hBe (o.ws.getD (k - 1) 0)
        have HA : Lt64 (o.ws.getD k 0 * 2 ^ r % 18446744073709551616) := by unfold Lt64; exact Nat.mod_lt _ (by omega)
        have HB : Lt64 (o.ws.getD (k - 1) 0 / 2 ^ (64 - r)) := Nat.lt_of_le_of_lt (Nat.div_le_self _ _) HX2.out
        have OR := or_nat HA HB
        have HN1 : Hid (∃ ws', Mid o N bb bb o.m o.cap ws' w (wr.setCell ⟨bb, k + p, none⟩ (.int .u64 ((o.ws.getD k 0 * 2 ^ r % 18446744073709551616 ||| o.ws.getD (k - 1) 0 / 2 ^ (64 - r) : Nat) : Int))).drew ∧ Down o.ws (fun j => o.ws.getD j 0) r p k ws') := Lib.hid
          ⟨_, (hrel.out.1.store (by omega) (lt64_or HA HB)).of_heap, hrel.out.2.step (by omega) (shW_mid (by omega) hk0).symm⟩
        clear hAe hBe acs afr hsrc HA HB HX2
        generalize o.ws.getD k 0 * 2 ^ r % 18446744073709551616 = A at *
        generalize o.ws.getD (k - 1) 0 / 2 ^ (64 - r) = B at *
        generalize o.ws.getD k 0 = xk at *
        generalize o.ws.getD (k - 1) 0 = xj at *
        generalize A ||| B = V at *
        go_wp2
        refine wp_region_still_tail 27 (by kernel_rfl) (by kernel_rfl) ?_
        simp only [List.take_succ_cons, List.take_zero, List.drop_succ_cons, List.drop_zero]
        repeat still_step
        refine wpStill_nil ?_
        go_wp2
        go_roundw
        case rel =>
          obtain ⟨ws', hn1, hn2⟩ := HN1.out
          exact ⟨k, ws', by omega, by go_num, Lib.hid ⟨hn1, hn2⟩⟩
        case measure => simp [intOf]
      · obtain rfl : k = 0 := by omega
        have HA : Lt64 (o.ws.getD 0 0 * 2 ^ r % 18446744073709551616) := by unfold Lt64; exact Nat.mod_lt _ (by omega)
        have HN1 : Hid (∃ ws', Mid o N bb bb o.m o.cap ws' w (wr.setCell ⟨bb, p, none⟩ (.int .u64 ((o.ws.getD 0 0 * 2 ^ r % 18446744073709551616 : Nat) : Int))) ∧ Down o.ws (fun j => o.ws.getD j 0) r p 0 ws') := Lib.hid (by
          have h1 := hrel.out.1.store (j := 0 + p) (by omega) HA
          have h2 := hrel.out.2.step (X := o.ws.getD 0 0 * 2 ^ r % 18446744073709551616) (by omega) (by rw [Nat.zero_add, shW_first])
          rw [Nat.zero_add] at h1 h2
          exact ⟨_, h1, h2⟩)
        have p2 : (p : Int) < (o.m : Int) := by omega
        have p3 : wr.frozen? ⟨bb, p, none⟩ = false := afr p
        rw [Nat.zero_add] at yk fk
        clear hAe acs afr hsrc HA HX2
        generalize o.ws.getD 0 0 * 2 ^ r % 18446744073709551616 = A at *
        generalize o.ws.getD 0 0 = xk at *
        go_wp2_with fail
        go_roundw
        case rel =>
          obtain ⟨ws', hn1, hn2⟩ := HN1.out
          exact ⟨0, ws', by omega, by go_num, Lib.hid ⟨hn1, hn2⟩⟩
        case measure => simp [intOf]

set_option maxRecDepth 100000 in
set_option maxHeartbeats 6400000 in
theorem shift_isn (o : O) (b : List Bool) (n t : Nat) (w : World) (h : o.ok w) (hr : o.rep b) (hn : 0 < n) (hn2 : n ≤ 1000) (hb : b.length ≤ 1000) (hm : o.m = (b.length + 63) / 64) (ht : lastTo (bit o.ws) (64 * o.m) = some t) (hin : (t + n) / 64 + 1 ≤ o.m) (hext : t + n < b.length) (hr0 : 0 < n % 64) (hpad : t % 64 + n % 64 < 64) :
    Calls Try.prog 21 #[o.ptr, .int .u64 (n : Int)] w fun e w' => e = .returned (.tuple #[]) ∧ ∃ d, ones d = (ones b).map (· + n) ∧ d.length ≤ 3000 ∧ Upd o d w w' := by
  have htm := lastTo_lt _ _ ht
  have hmb : o.m ≤ 16 := by omega
  have HT : Hid (Calls Try.prog 47 #[.pointer (some ⟨o.p, 0, none⟩)] w fun e w' => e = .returned (.tuple #[.int .u64 (t : Int), .bool true]) ∧ w = w') := Lib.hid ((top o (some t) w h (by omega) (Lib.hid ht)).mono fun e w' ⟨he, hw⟩ => ⟨he, hw.symm⟩)
  obtain ⟨ns, hns⟩ : ∃ ns, (t + n) / 64 + 1 = ns := ⟨_, rfl⟩
  have HN : Hid (∀ wx, Calls Try.prog 48 #[.int .u64 ((t : Int) + (n : Int) + 1)] wx fun e w' => e = .returned (.int .i64 (ns : Int)) ∧ wx = w') := Lib.hid (fun wx => by
    have := wordsNeeded (t + n + 1) (by omega) wx
    rw [show (t + n + 1 + 63) / 64 = ns from by omega] at this
    exact this.mono fun e w' ⟨he, hw⟩ => ⟨he, hw.symm⟩)
  obtain ⟨idx, hidx⟩ : ∃ idx, t / 64 = idx := ⟨_, rfl⟩
  obtain ⟨r, hrr⟩ : ∃ r, n % 64 = r := ⟨_, rfl⟩
  obtain ⟨p, hpp⟩ : ∃ p, n / 64 = p := ⟨_, rfl⟩
  obtain ⟨bb, hbb, hp, hbl, hne, c0, c1, f0, f1, hcs, hfr, hbd1, hbd2⟩ := h.facts
  have g1 : ¬ n = 0 := by omega
  have g2 : ((n : Int) == 0) = false := by rw [beq_eq_false_iff_ne]; omega
  have g3 : ¬ (t : Int) + (n : Int) < (n : Int) := by omega
  have g4 : ¬ (o.m : Int) < (ns : Int) := by omega
  have g5 : ¬ (o.n : Int) ≤ (t : Int) + (n : Int) := by rw [hr.len]; omega
  obtain ⟨N, hN⟩ : ∃ N, N = b.length := ⟨_, rfl⟩
  have HMid : Hid (∃ wL ws0, wL = w ∧ ws0 = o.ws ∧ Mid o N bb bb o.m o.cap ws0 w wL) := Lib.hid ⟨_, _, rfl, rfl, Mid.own h hbb (.inr ⟨rfl, by rw [hN, hr.len]⟩)⟩
  have HNN : Hid (N ≤ 64 * o.m ∧ b.length ≤ N ∧ t + n + 1 ≤ N ∧ N ≤ 3000) := Lib.hid (by have := hr.room; omega)
  have HSall : Hid (∀ i, Lt64 (o.ws.getD i 0)) := Lib.hid (fun i => h.fits.at i)
  have H := Lib.hid h
  have HR := Lib.hid hr
  have HTT := Lib.hid ht
  have HNE := Lib.hid (And.intro hn (And.intro hn2 hb))
  have HID := Lib.hid (show t / 64 = idx ∧ n % 64 = r ∧ n / 64 = p from ⟨hidx, hrr, hpp⟩)
  have hidxm : idx < o.m := by omega
  have hout : idx + p < o.m := by omega
  have hr64 : r < 64 := by omega
  have htb : t ≤ 1100 := by omega
  have hpb : p ≤ 16 := by omega
  have hnsb : ns ≤ 50 := by omega
  have HARITH := Lib.hid (show (t : Int) / 64 = (idx : Int) ∧ (n : Int) % 64 = ((r : Int)) ∧ (n : Int) / 64 = (p : Int) ∧ ((t : Int) % 64 = (t - 64 * idx : Nat)) ∧ t - 64 * idx < 64 from by omega)
  have HPAD := Lib.hid (show ¬ (64 : Int) ≤ (t - 64 * idx : Nat) + (r : Int) ∧ 0 < r ∧ t % 64 + r < 64 from by omega)
  clear h hr hcs hfr htm hn hb hm ht hin hext hr0 hpad hns hidx hrr hpp hN
  unfold O.ptr
  go_enter Try.func21, Try.ntmps21
  go_upto_region 12 with (first | (go_at_call 46; (with_reducible refine (notNil2 _ _).mono ?_); rintro e w1 ⟨rfl, rfl⟩) | (go_at_call 47; (with_reducible refine HT.out.mono ?_); rintro e w1 ⟨rfl, rfl⟩) | (go_at_call 48; (with_reducible refine (HN.out _).mono ?_); rintro e w1 ⟨rfl, rfl⟩))
  obtain ⟨wL, ws0, hwL, hws0, hmid⟩ := HMid.out
  subst wL
  have HW0 : Hid (∀ j, ws0.getD j 0 = (fun j => o.ws.getD j 0) j) := Lib.hid (fun j => by rw [hws0])
  clear HMid hws0 
  obtain ⟨a0, a1, af0, af1, acs, afr⟩ := hmid.facts
  have hsrc := hmid.src
  have HMID := Lib.hid hmid
  obtain ⟨E1, E3, E4, E2, hpad⟩ := HARITH.out
  generalize t - 64 * idx = pad at *
  have g6 : ¬ r = 0 := by have := HPAD.out; omega
  have g7 := HPAD.out.1
  have HS0 : Hid (∃ wS ws1, wS = w ∧ Mid o N bb bb o.m o.cap ws1 w wS ∧ Down o.ws (fun j => o.ws.getD j 0) r p (idx + 1) ws1) := Lib.hid (by
    refine ⟨_, _, rfl, HMID.out, Down.start H.out HTT.out HID.out.1 HPAD.out.2.1 (fun j hj => over_top H.out HTT.out HID.out.1 j hj) (fun j hj => HW0.out j) ?_⟩
    exact (HW0.out _).trans ((over_top H.out HTT.out HID.out.1 _ (by omega)).trans (none_out H.out HTT.out HID.out.1 HPAD.out.2.1 HPAD.out.2.2).symm))
  clear hsrc acs afr
  go_upto_region 18 with fail
  obtain ⟨wS, ws1, hwS, hS1, hS2⟩ := HS0.out
  subst wS
  have HSS := Lib.hid (And.intro hS1 hS2)
  clear hS1 hS2 HS0 a0 a1 af0 af1 hmid
  rw [E2, E3]
  try generalize decide ((t : Int) + (n : Int) < (n : Int)) = q1
  try generalize decide ((o.m : Int) < (ns : Int)) = q2
  try generalize (t : Int) + (n : Int) + 1 = q3
  try generalize (t : Int) + (n : Int) = q4
  try generalize decide ((o.n : Int) ≤ q4) = q5
  clear E1 E2 E3 E4 g1 g2 g3 g4 g5 g7
  go_wp2_with fail
  go_loopw [12] (fun i wr => ∃ (k : Nat) (ws : List Nat), k ≤ idx + 1 ∧ i = .int .i64 ((k : Int) - 1) ∧ Hid (Mid o N bb bb o.m o.cap ws w wr ∧ Down o.ws (fun j => o.ws.getD j 0) r p k ws)) (fun i _ => ((intOf i) + 1).toNat)
  case atStart => exact ⟨idx + 1, ws1, Nat.le_refl _, by go_num, Lib.hid HSS.out⟩
  case round =>
    obtain ⟨k, ws, hk, rfl, hrel⟩ := hrel
    clear HSS HMID
    obtain ⟨a0, a1, af0, af1, acs, afr⟩ := hrel.out.1.facts
    have hsrc := hrel.out.1.src
    have hlen := hrel.out.1.len
    have q6 : IntKind.i64.wrap (p : Int) = (p : Int) := by rw [IntKind.wrap_i64]; omega
    cases k with
    | zero =>
      have em : (((0 : Nat) : Int) - 1) = -1 := rfl
      rw [em]
      have HCL : Hid (Clean o.ws (fun j => o.ws.getD j 0) r p 0 ws) := Lib.hid (Clean.start hrel.out.2)
      have HMI := Lib.hid hrel.out.1
      clear hsrc a0 a1 af0 af1 acs afr hlen hrel
      go_wp2_with fail
      go_loopw [13] (fun x wx => ∃ (q : Nat) (ws' : List Nat), q ≤ p ∧ x = .int .i64 (q : Int) ∧ Hid (Mid o N bb bb o.m o.cap ws' w wx ∧ Clean o.ws (fun j => o.ws.getD j 0) r p q ws')) (fun x _ => p - (intOf x).toNat)
      case atStart => exact ⟨0, ws, Nat.zero_le _, rfl, Lib.hid ⟨HMI.out, HCL.out⟩⟩
      case round =>
        obtain ⟨q, ws', hq, rfl, hrel⟩ := hrel
        obtain ⟨a0, a1, af0, af1, acs, afr⟩ := hrel.out.1.facts
        by_cases hqp : q < p
        · have hqp' : (q : Int) < (p : Int) := by omega
          have hqm : q < o.m := by omega
          have hqm' : (q : Int) < (o.m : Int) := by omega
          have yq := acs q hqm
          have fq := afr q
          have HN1 : Hid (Mid o N bb bb o.m o.cap (ws'.set q 0) w (wr.setCell ⟨bb, q, none⟩ (.int .u64 ((0 : Nat) : Int))) ∧ Clean o.ws (fun j => o.ws.getD j 0) r p (q + 1) (ws'.set q 0)) := Lib.hid
            ⟨hrel.out.1.store hqm lt64_zero, hrel.out.2.step (by rw [hrel.out.1.len]; exact hqm) hqp⟩
          clear acs afr
          generalize ws'.getD q 0 = yo at yq
          go_wp2_with fail
          go_roundw
          case rel => exact ⟨q + 1, _, by omega, by go_num, Lib.hid HN1.out⟩
          case measure => simp [intOf]; omega
        · have hqp' : ¬ (q : Int) < (p : Int) := by omega
          obtain rfl : q = p := by omega
          have HF := Lib.hid (hrel.out.1.upd (n := n) (t := t) (N := N) H.out HR.out HTT.out (by rw [HID.out.2.1, HID.out.2.2]; exact hrel.out.2.fin) HNN.out.1 HNN.out.2.1 HNN.out.2.2.1 HNN.out.2.2.2)
          clear acs afr
          go_wp2_with fail
          go_end0
          exact ⟨rfl, HF.out⟩
    | succ k =>
      have hk1 : ((k + 1 : Nat) : Int) - 1 = (k : Int) := by omega
      rw [hk1]
      have y0 := hsrc k (by omega) (fun _ => (hrel.out.2 k).trans (if_neg (by omega)))
      have fk := afr (k + p)
      have yk := acs (k + p) (by omega)
      have q1 : (k : Int) < (o.m : Int) := by omega
      have q2 : (k : Int) + (p : Int) < (o.m : Int) := by omega
      have q3 : ((k : Int) + (p : Int)).toNat = k + p := by omega
      have q4 : (0 : Int) ≤ (k : Int) + (p : Int) := by omega
      have q5 : IntKind.i64.wrap ((k : Int) + (p : Int)) = (k : Int) + (p : Int) := by rw [IntKind.wrap_i64]; omega
      have q7 : IntKind.u64.wrap (64 - (r : Int)) = 64 - (r : Int) := by rw [IntKind.wrap_u64]; omega
      generalize ws.getD (k + p) 0 = yo at yk
      have HX2 : Hid (Lt64 (o.ws.getD (k - 1) 0)) := Lib.hid (HSall.out (k - 1))
      have hAe : ∀ v : Nat, IntKind.u64.wrap ((v : Int) * 2 ^ r) = ((v * 2 ^ r % 18446744073709551616 : Nat) : Int) := fun v => by
        rw [IntKind.wrap_u64, Int.natCast_emod, Int.natCast_mul, Int.natCast_pow]; rfl
      have A1 := hAe (o.ws.getD k 0)
      by_cases hk0 : 0 < k
      · have z0 := hsrc (k - 1) (by omega) (fun _ => (hrel.out.2 (k - 1)).trans (if_neg (by omega)))
        have m1 : IntKind.i64.wrap ((k : Int) - 1) = (k : Int) - 1 := by rw [IntKind.wrap_i64]; omega
        have m2 : ((k : Int) - 1).toNat = k - 1 := by omega
        have m3 : (k : Int) - 1 < (o.m : Int) := by omega
        have m4 : (0 : Int) ≤ (k : Int) - 1 := by omega
        have m5 : (0 : Int) < (k : Int) := by omega
        have m6 : (1 : Int) ≤ (k : Int) := by omega
        have m7 : 1 ≤ k := hk0
        have hBe : ∀ v : Nat, (v : Int) / 2 ^ (64 - r) = ((v / 2 ^ (64 - r) : Nat) : Int) := fun v => by
          rw [Int.natCast_ediv, Int.natCast_pow]; rfl
        have B1 := hBe (o.ws.getD (k - 1) 0)
        have HA : Lt64 (o.ws.getD k 0 * 2 ^ r % 18446744073709551616) := by unfold Lt64; exact Nat.mod_lt _ (by omega)
        have HB : Lt64 (o.ws.getD (k - 1) 0 / 2 ^ (64 - r)) := Nat.lt_of_le_of_lt (Nat.div_le_self _ _) HX2.out
        have OR := or_nat HA HB
        have HN1 : Hid (∃ ws', Mid o N bb bb o.m o.cap ws' w (wr.setCell ⟨bb, k + p, none⟩ (.int .u64 ((o.ws.getD k 0 * 2 ^ r % 18446744073709551616 ||| o.ws.getD (k - 1) 0 / 2 ^ (64 - r) : Nat) : Int))).drew ∧ Down o.ws (fun j => o.ws.getD j 0) r p k ws') := Lib.hid
          ⟨_, (hrel.out.1.store (by omega) (lt64_or HA HB)).of_heap, hrel.out.2.step (by omega) (shW_mid (by omega) hk0).symm⟩
        clear hAe hBe acs afr hsrc HA HB HX2
        generalize o.ws.getD k 0 * 2 ^ r % 18446744073709551616 = A at *
        generalize o.ws.getD (k - 1) 0 / 2 ^ (64 - r) = B at *
        generalize o.ws.getD k 0 = xk at *
        generalize o.ws.getD (k - 1) 0 = xj at *
        generalize A ||| B = V at *
        go_wp2
        refine wp_region_still_tail 27 (by kernel_rfl) (by kernel_rfl) ?_
        simp only [List.take_succ_cons, List.take_zero, List.drop_succ_cons, List.drop_zero]
        repeat still_step
        refine wpStill_nil ?_
        go_wp2
        go_roundw
        case rel =>
          obtain ⟨ws', hn1, hn2⟩ := HN1.out
          exact ⟨k, ws', by omega, by go_num, Lib.hid ⟨hn1, hn2⟩⟩
        case measure => simp [intOf]
      · obtain rfl : k = 0 := by omega
        have HA : Lt64 (o.ws.getD 0 0 * 2 ^ r % 18446744073709551616) := by unfold Lt64; exact Nat.mod_lt _ (by omega)
        have HN1 : Hid (∃ ws', Mid o N bb bb o.m o.cap ws' w (wr.setCell ⟨bb, p, none⟩ (.int .u64 ((o.ws.getD 0 0 * 2 ^ r % 18446744073709551616 : Nat) : Int))) ∧ Down o.ws (fun j => o.ws.getD j 0) r p 0 ws') := Lib.hid (by
          have h1 := hrel.out.1.store (j := 0 + p) (by omega) HA
          have h2 := hrel.out.2.step (X := o.ws.getD 0 0 * 2 ^ r % 18446744073709551616) (by omega) (by rw [Nat.zero_add, shW_first])
          rw [Nat.zero_add] at h1 h2
          exact ⟨_, h1, h2⟩)
        have p2 : (p : Int) < (o.m : Int) := by omega
        have p3 : wr.frozen? ⟨bb, p, none⟩ = false := afr p
        rw [Nat.zero_add] at yk fk
        clear hAe acs afr hsrc HA HX2
        generalize o.ws.getD 0 0 * 2 ^ r % 18446744073709551616 = A at *
        generalize o.ws.getD 0 0 = xk at *
        go_wp2_with fail
        go_roundw
        case rel =>
          obtain ⟨ws', hn1, hn2⟩ := HN1.out
          exact ⟨0, ws', by omega, by go_num, Lib.hid ⟨hn1, hn2⟩⟩
        case measure => simp [intOf]

set_option maxRecDepth 100000 in
set_option maxHeartbeats 6400000 in
theorem shift_isz (o : O) (b : List Bool) (n t : Nat) (w : World) (h : o.ok w) (hr : o.rep b) (hn : 0 < n) (hn2 : n ≤ 1000) (hb : b.length ≤ 1000) (hm : o.m = (b.length + 63) / 64) (ht : lastTo (bit o.ws) (64 * o.m) = some t) (hin : (t + n) / 64 + 1 ≤ o.m) (hext : t + n < b.length) (hr0 : n % 64 = 0) :
    Calls Try.prog 21 #[o.ptr, .int .u64 (n : Int)] w fun e w' => e = .returned (.tuple #[]) ∧ ∃ d, ones d = (ones b).map (· + n) ∧ d.length ≤ 3000 ∧ Upd o d w w' := by
  have htm := lastTo_lt _ _ ht
  have hmb : o.m ≤ 16 := by omega
  have HT : Hid (Calls Try.prog 47 #[.pointer (some ⟨o.p, 0, none⟩)] w fun e w' => e = .returned (.tuple #[.int .u64 (t : Int), .bool true]) ∧ w = w') := Lib.hid ((top o (some t) w h (by omega) (Lib.hid ht)).mono fun e w' ⟨he, hw⟩ => ⟨he, hw.symm⟩)
  obtain ⟨ns, hns⟩ : ∃ ns, (t + n) / 64 + 1 = ns := ⟨_, rfl⟩
  have HN : Hid (∀ wx, Calls Try.prog 48 #[.int .u64 ((t : Int) + (n : Int) + 1)] wx fun e w' => e = .returned (.int .i64 (ns : Int)) ∧ wx = w') := Lib.hid (fun wx => by
    have := wordsNeeded (t + n + 1) (by omega) wx
    rw [show (t + n + 1 + 63) / 64 = ns from by omega] at this
    exact this.mono fun e w' ⟨he, hw⟩ => ⟨he, hw.symm⟩)
  obtain ⟨idx, hidx⟩ : ∃ idx, t / 64 = idx := ⟨_, rfl⟩
  obtain ⟨r, hrr⟩ : ∃ r, n % 64 = r := ⟨_, rfl⟩
  obtain ⟨p, hpp⟩ : ∃ p, n / 64 = p := ⟨_, rfl⟩
  obtain ⟨bb, hbb, hp, hbl, hne, c0, c1, f0, f1, hcs, hfr, hbd1, hbd2⟩ := h.facts
  have g1 : ¬ n = 0 := by omega
  have g2 : ((n : Int) == 0) = false := by rw [beq_eq_false_iff_ne]; omega
  have g3 : ¬ (t : Int) + (n : Int) < (n : Int) := by omega
  have g4 : ¬ (o.m : Int) < (ns : Int) := by omega
  have g5 : ¬ (o.n : Int) ≤ (t : Int) + (n : Int) := by rw [hr.len]; omega
  obtain ⟨N, hN⟩ : ∃ N, N = b.length := ⟨_, rfl⟩
  have HMid : Hid (∃ wL ws0, wL = w ∧ ws0 = o.ws ∧ Mid o N bb bb o.m o.cap ws0 w wL) := Lib.hid ⟨_, _, rfl, rfl, Mid.own h hbb (.inr ⟨rfl, by rw [hN, hr.len]⟩)⟩
  have HNN : Hid (N ≤ 64 * o.m ∧ b.length ≤ N ∧ t + n + 1 ≤ N ∧ N ≤ 3000) := Lib.hid (by have := hr.room; omega)
  have HSall : Hid (∀ i, Lt64 (o.ws.getD i 0)) := Lib.hid (fun i => h.fits.at i)
  have H := Lib.hid h
  have HR := Lib.hid hr
  have HTT := Lib.hid ht
  have HNE := Lib.hid (And.intro hn (And.intro hn2 hb))
  have HID := Lib.hid (show t / 64 = idx ∧ n % 64 = r ∧ n / 64 = p from ⟨hidx, hrr, hpp⟩)
  have hidxm : idx < o.m := by omega
  have hout : idx + p < o.m := by omega
  have hr64 : r < 64 := by omega
  have htb : t ≤ 1100 := by omega
  have hpb : p ≤ 16 := by omega
  have hnsb : ns ≤ 50 := by omega
  have HARITH := Lib.hid (show (t : Int) / 64 = (idx : Int) ∧ (n : Int) % 64 = (0) ∧ (n : Int) / 64 = (p : Int) ∧ ((t : Int) % 64 = (t - 64 * idx : Nat)) ∧ t - 64 * idx < 64 from by omega)
  have HPAD := Lib.hid (show r = 0 ∧ ns = p + idx + 1 ∧ p ≤ ns ∧ ns ≤ o.m from by omega)
  clear h hr hcs hfr htm hn hb hm ht hin hext hr0 hns hidx hrr hpp hN
  unfold O.ptr
  go_enter Try.func21, Try.ntmps21
  go_upto_region 12 with (first | (go_at_call 46; (with_reducible refine (notNil2 _ _).mono ?_); rintro e w1 ⟨rfl, rfl⟩) | (go_at_call 47; (with_reducible refine HT.out.mono ?_); rintro e w1 ⟨rfl, rfl⟩) | (go_at_call 48; (with_reducible refine (HN.out _).mono ?_); rintro e w1 ⟨rfl, rfl⟩))
  obtain ⟨wL, ws0, hwL, hws0, hmid⟩ := HMid.out
  subst wL
  have HW0 : Hid (∀ j, ws0.getD j 0 = (fun j => o.ws.getD j 0) j) := Lib.hid (fun j => by rw [hws0])
  clear HMid hws0 
  obtain ⟨a0, a1, af0, af1, acs, afr⟩ := hmid.facts
  have hsrc := hmid.src
  have HMID := Lib.hid hmid
  obtain ⟨E1, E3, E4, E2, hpad⟩ := HARITH.out
  generalize t - 64 * idx = pad at *
  have g6 : r = 0 := by have := HPAD.out; omega
  have k1 : (p : Int) ≤ (ns : Int) := by have := HPAD.out; omega
  have k2 : (ns : Int) ≤ (o.cap : Int) := by have := HPAD.out; have := hmid.dst.bound.1; omega
  have k3 : ((ns : Int) - (p : Int)).toNat = idx + 1 := by have := HPAD.out; omega
  have k4 : ((o.cap : Int) - (p : Int)).toNat = o.cap - p := by omega
  have k5 : (0 : Int) ≤ (p : Int) := by omega
  clear hsrc acs afr
  go_upto_region 15 with fail
  refine wp_region_still_tail 8 (by kernel_rfl) (by kernel_rfl) ?_
  simp only [List.take_succ_cons, List.take_zero, List.drop_succ_cons, List.drop_zero]
  repeat still_step
  refine wpStill_nil ?_
  rcases HMID.out.dst.alt with ⟨hx, _⟩ | ⟨b', cur, hb', hcur, hsz, htk⟩
  · cases hx
  cases hb'
  have HRD := HMID.out.srcRd H.out (fun e j => HW0.out j)
  have HC : Hid (∀ w2, w2.heap[bb]? = some (.cells (cur.toList.take p ++ (U o.ws).take (idx + 1) ++ cur.toList.drop (p + (idx + 1))).toArray 69 (0, 0)) → Only (fun j => j = bb) w w2 → ∃ ws1, Mid o N bb bb o.m o.cap ws1 w w2 ∧ Clean o.ws (fun j => o.ws.getD j 0) 0 p 0 ws1) := Lib.hid (fun w2 hb2 hO2 => by
    have hl := H.out.len
    have hl2 := HMID.out.len
    exact ⟨_, HMID.out.copied H.out hcur (by rw [hsz, Nat.mul_one]) (by rw [← htk, Nat.mul_one]) (by omega) (by omega) hb2 hO2, Clean.start (Down.copied HSall.out (over_top H.out HTT.out HID.out.1) (fun j hj => over_top H.out HTT.out HID.out.1 j hj) HW0.out (by omega) (by omega))⟩)
  have hfit : p + (idx + 1) ≤ cur.size := by rw [hsz, Nat.mul_one]; have := HMID.out.dst.bound.1; omega
  refine wpList_copy (idx + 1) rfl _ _ _ _ rfl slWord (g := bb) (off := p) (dl := idx + 1) (dc := o.cap - p) (by have hq := HPAD.out; have hq2 := HMID.out.dst.bound.1; simp [Act.eval, go_sem] <;> omega) hcur (sa := some ⟨bb, 0, none⟩) (sl := o.m) (sc := o.cap) rfl HRD.drew (by omega) hfit ?_
  intro w2 hb2 hO2
  obtain ⟨ws, hM1, hM2⟩ := HC.out w2 hb2 hO2.undrew
  have HMI := Lib.hid hM1
  have HCL := Lib.hid hM2
  clear hM1 hM2 hb2 hO2 HC HRD hcur htk hsz hmid a0 a1 af0 af1
  try rw [E2]
  try rw [E3]
  try generalize decide ((t : Int) + (n : Int) < (n : Int)) = q1
  try generalize decide ((o.m : Int) < (ns : Int)) = q2
  try generalize (t : Int) + (n : Int) + 1 = q3
  try generalize (t : Int) + (n : Int) = q4
  try generalize decide ((o.n : Int) ≤ q4) = q5
  clear E1 E2 E3 E4 g1 g2 g3 g4 g5
  have q6 : IntKind.i64.wrap (p : Int) = (p : Int) := by rw [IntKind.wrap_i64]; omega
  go_wp2_with fail
  go_loopw [13] (fun x wx => ∃ (q : Nat) (ws' : List Nat), q ≤ p ∧ x = .int .i64 (q : Int) ∧ Hid (Mid o N bb bb o.m o.cap ws' w wx ∧ Clean o.ws (fun j => o.ws.getD j 0) 0 p q ws')) (fun x _ => p - (intOf x).toNat)
  case atStart => exact ⟨0, ws, Nat.zero_le _, rfl, Lib.hid ⟨HMI.out, HCL.out⟩⟩
  case round =>
    obtain ⟨q, ws', hq, rfl, hrel⟩ := hrel
    obtain ⟨a0, a1, af0, af1, acs, afr⟩ := hrel.out.1.facts
    by_cases hqp : q < p
    · have hqp' : (q : Int) < (p : Int) := by omega
      have hqm : q < o.m := by omega
      have hqm' : (q : Int) < (o.m : Int) := by omega
      have yq := acs q hqm
      have fq := afr q
      have HN1 : Hid (Mid o N bb bb o.m o.cap (ws'.set q 0) w (wr.setCell ⟨bb, q, none⟩ (.int .u64 ((0 : Nat) : Int))) ∧ Clean o.ws (fun j => o.ws.getD j 0) 0 p (q + 1) (ws'.set q 0)) := Lib.hid
        ⟨hrel.out.1.store hqm lt64_zero, hrel.out.2.step (by rw [hrel.out.1.len]; exact hqm) hqp⟩
      clear acs afr
      generalize ws'.getD q 0 = yo at yq
      go_wp2_with fail
      go_roundw
      case rel => exact ⟨q + 1, _, by omega, by go_num, Lib.hid HN1.out⟩
      case measure => simp [intOf]; omega
    · have hqp' : ¬ (q : Int) < (p : Int) := by omega
      obtain rfl : q = p := by omega
      have HF := Lib.hid (hrel.out.1.upd (n := n) (t := t) (N := N) H.out HR.out HTT.out (by rw [HID.out.2.1, HID.out.2.2, HPAD.out.1]; exact hrel.out.2.fin) HNN.out.1 HNN.out.2.1 HNN.out.2.2.1 HNN.out.2.2.2)
      clear acs afr
      go_wp2_with fail
      go_end0
      exact ⟨rfl, HF.out⟩

end Go.Proofs.Ytmadpemagfbmlaa.bs

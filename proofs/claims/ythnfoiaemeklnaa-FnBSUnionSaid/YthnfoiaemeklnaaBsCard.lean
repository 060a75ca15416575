/-
  Bitsets: how many bits are set in one alone, or in one of both: popcntMaskSlice, popcntOrSlice, DifferenceCardinality, UnionCardinality.
-/
import Derived.Test.YthnfoiaemeklnaaBsInter
import Derived.Test.YthnfoiaemeklnaaBsCount
namespace Go.Proofs.Ythnfoiaemeklnaa.bs
open Go.RowKit Go.Proofs.Ythnfoiaemeklnaa.base Go.Proofs.Ythnfoiaemeklnaa.heap Go.Proofs.Ythnfoiaemeklnaa.bit
set_option linter.unusedVariables false
open Go.Proofs.Ythnfoiaemeklnaa.pop64

/-- word by word -/
def zipW (op : Nat → Nat → Nat) (l l2 : List Nat) (n : Nat) : List Nat := (List.range n).map fun i => op (l.getD i 0) (l2.getD i 0)
theorem zipW_get (op : Nat → Nat → Nat) (l l2 : List Nat) (n i : Nat) (hi : i < n) : (zipW op l l2 n).getD i 0 = op (l.getD i 0) (l2.getD i 0) := by simp [zipW, hi]
theorem zipW_len (op : Nat → Nat → Nat) (l l2 : List Nat) (n : Nat) : (zipW op l l2 n).length = n := by simp [zipW]
theorem countW_congr (l l2 : List Nat) (n : Nat) (h : ∀ i, i < n → l.getD i 0 = l2.getD i 0) : countW l (64 * n) = countW l2 (64 * n) := by
  induction n with
  | zero => rfl
  | succ n ih => rw [countW_next, countW_next, ih (fun i hi => h i (by omega)), h n (by omega)]
theorem countW_add (l : List Nat) (L n : Nat) : countW l (64 * (L + n)) = countW l (64 * L) + countW (l.drop L) (64 * n) := by
  induction n with
  | zero => simp [countW_zero]
  | succ n ih =>
    have e : (l.drop L).getD n 0 = l.getD (L + n) 0 := by simp [List.getD_eq_getElem?_getD]
    rw [← Nat.add_assoc, countW_next, countW_next, ih, e, Nat.add_assoc]

set_option maxRecDepth 100000 in
set_option maxHeartbeats 3200000 in
theorem popcntMask (b b2 off off2 cap cap2 n : Nat) (l l2 : List Nat) (w : World) (h : Row w b off l n) (h2 : Row w b2 off2 l2 n) (h0 : 0 < n) (hn : n ≤ 1048576) :
    Calls Try.prog 81 #[.slice (some ⟨b, off, none⟩) n cap, .slice (some ⟨b2, off2, none⟩) n cap2] w fun e w' => e = .returned (.int .u64 (countW (zipW anot l l2 n) (64 * n) : Int)) ∧ ∃ m, w' = w.drewN m := by
  have H := Lib.hid h
  have H2 := Lib.hid h2
  have z := h2.cell (n - 1) (by omega)
  have HZ : Hid (∀ i, i < n → (zipW anot l l2 n).getD i 0 = anot (l.getD i 0) (l2.getD i 0)) := Lib.hid (fun i hi => zipW_get _ _ _ _ _ hi)
  have HW : Hid (∀ i, i < n → Lt64 ((zipW anot l l2 n).getD i 0)) := Lib.hid (fun i hi => by rw [HZ.out i hi]; exact anot_lt (H.out.fits.at i))
  have HE : Hid (∀ i, i < n → bits .andNot .u64 (l.getD i 0 : Int) (l2.getD i 0 : Int) = ((zipW anot l l2 n).getD i 0 : Int)) := Lib.hid (fun i hi => by rw [HZ.out i hi]; exact anot_eq (H.out.fits.at i) (H2.out.fits.at i))
  generalize zipW anot l l2 n = Z at *
  have zi : ((n : Int) - 1).toNat = n - 1 := by omega
  have zj : (n : Int) - 1 < (n : Int) := by omega
  have zl : (0 : Int) ≤ (n : Int) - 1 := by omega
  clear h h2 HZ
  generalize l2.getD (n - 1) 0 = u2 at *
  go_enter Try.func81, Try.ntmps81
  go_wp2
  clear z zi zj zl
  go_loopw [5, 6, 7, 8, 10] (fun c0 c1 c2 c3 i wr => ∃ k n0 n1 n2 n3 t : Nat, c0 = .int .u64 (n0 : Int) ∧ c1 = .int .u64 (n1 : Int) ∧ c2 = .int .u64 (n2 : Int) ∧ c3 = .int .u64 (n3 : Int) ∧ i = .int .i64 (k : Int) ∧ k ≤ n ∧ n0 ≤ 64 * n ∧ n1 ≤ 64 * n ∧ n2 ≤ 64 * n ∧ n3 ≤ 64 * n ∧ Hid (n0 + n1 + n2 + n3 = countW Z (64 * k)) ∧ Hid (wr = w.drewN t)) (fun _ _ _ _ i _ => n - (intOf i).toNat)
  case atStart => exact ⟨0, 0, 0, 0, 0, 0, rfl, rfl, rfl, rfl, rfl, by omega, by omega, by omega, by omega, by omega, Lib.hid rfl, Lib.hid rfl⟩
  case round =>
    obtain ⟨k, n0, n1, n2, n3, t, rfl, rfl, rfl, rfl, rfl, hk, bb0, bb1, bb2, bb3, HS, HT⟩ := hrel
    have HC : Hid (∀ p, wr.cell? p = w.cell? p) := Lib.hid (by rw [HT.out]; exact fun _ => rfl)
    by_cases hlt : k + 4 ≤ n
    · have hlt' : (k : Int) ≤ (n : Int) - 4 := by omega
      have HG0 := Lib.hid (H.out.cell k (by omega))
      have HG1 := Lib.hid (H.out.cell (k + 1) (by omega))
      have HG2 := Lib.hid (H.out.cell (k + 2) (by omega))
      have HG3 := Lib.hid (H.out.cell (k + 3) (by omega))
      have HF0 := Lib.hid (H2.out.cell k (by omega))
      have HF1 := Lib.hid (H2.out.cell (k + 1) (by omega))
      have HF2 := Lib.hid (H2.out.cell (k + 2) (by omega))
      have HF3 := Lib.hid (H2.out.cell (k + 3) (by omega))
      have e0 := HE.out k (by omega)
      have e1 := HE.out (k + 1) (by omega)
      have e2 := HE.out (k + 2) (by omega)
      have e3 := HE.out (k + 3) (by omega)
      have HN : Hid (countW Z (64 * (k + 4)) = countW Z (64 * k) + cnt 64 (Z.getD k 0) + cnt 64 (Z.getD (k + 1) 0) + cnt 64 (Z.getD (k + 2) 0) + cnt 64 (Z.getD (k + 3) 0)) := Lib.hid (by
        rw [countW_next Z (k + 3), countW_next Z (k + 2), countW_next Z (k + 1), countW_next Z k])
      have hle := countW_le Z (64 * (k + 4))
      have q0 := Lib.hid (fun wx => onesCount _ (HW.out k (by omega)) wx)
      have q1 := Lib.hid (fun wx => onesCount _ (HW.out (k + 1) (by omega)) wx)
      have q2 := Lib.hid (fun wx => onesCount _ (HW.out (k + 2) (by omega)) wx)
      have q3 := Lib.hid (fun wx => onesCount _ (HW.out (k + 3) (by omega)) wx)
      have z0 := cnt_le 64 (Z.getD k 0)
      have z1 := cnt_le 64 (Z.getD (k + 1) 0)
      have z2 := cnt_le 64 (Z.getD (k + 2) 0)
      have z3 := cnt_le 64 (Z.getD (k + 3) 0)
      generalize cnt 64 (Z.getD k 0) = y0 at *
      generalize cnt 64 (Z.getD (k + 1) 0) = y1 at *
      generalize cnt 64 (Z.getD (k + 2) 0) = y2 at *
      generalize cnt 64 (Z.getD (k + 3) 0) = y3 at *
      generalize Z.getD k 0 = v0 at *
      generalize Z.getD (k + 1) 0 = v1 at *
      generalize Z.getD (k + 2) 0 = v2 at *
      generalize Z.getD (k + 3) 0 = v3 at *
      generalize l.getD k 0 = x0 at *
      generalize l.getD (k + 1) 0 = x1 at *
      generalize l.getD (k + 2) 0 = x2 at *
      generalize l.getD (k + 3) 0 = x3 at *
      generalize l2.getD k 0 = s0 at *
      generalize l2.getD (k + 1) 0 = s1 at *
      generalize l2.getD (k + 2) 0 = s2 at *
      generalize l2.getD (k + 3) 0 = s3 at *
      have t1 : ((k : Int) + 1).toNat = k + 1 := by omega
      have t2 : ((k : Int) + 2).toNat = k + 2 := by omega
      have t3 : ((k : Int) + 3).toNat = k + 3 := by omega
      have i0 : (k : Int) < (n : Int) := by omega
      have i1 : (k : Int) + 1 < (n : Int) := by omega
      have i2 : (k : Int) + 2 < (n : Int) := by omega
      have i3 : (k : Int) + 3 < (n : Int) := by omega
      have j1 : (0 : Int) ≤ (k : Int) + 1 := by omega
      have j2 : (0 : Int) ≤ (k : Int) + 2 := by omega
      have j3 : (0 : Int) ≤ (k : Int) + 3 := by omega
      have k1 : IntKind.i64.wrap ((k : Int) + 1) = (k : Int) + 1 := by rw [IntKind.wrap_i64]; omega
      have k2 : IntKind.i64.wrap ((k : Int) + 2) = (k : Int) + 2 := by rw [IntKind.wrap_i64]; omega
      have k3 : IntKind.i64.wrap ((k : Int) + 3) = (k : Int) + 3 := by rw [IntKind.wrap_i64]; omega
      have r0 : IntKind.u64.wrap ((n0 : Int) + (y0 : Int)) = (n0 : Int) + (y0 : Int) := by rw [IntKind.wrap_u64]; omega
      have r1 : IntKind.u64.wrap ((n1 : Int) + (y1 : Int)) = (n1 : Int) + (y1 : Int) := by rw [IntKind.wrap_u64]; omega
      have r2 : IntKind.u64.wrap ((n2 : Int) + (y2 : Int)) = (n2 : Int) + (y2 : Int) := by rw [IntKind.wrap_u64]; omega
      have r3 : IntKind.u64.wrap ((n3 : Int) + (y3 : Int)) = (n3 : Int) + (y3 : Int) := by rw [IntKind.wrap_u64]; omega
      have p0 : IntKind.u64.wrap (y0 : Int) = (y0 : Int) := by rw [IntKind.wrap_u64]; omega
      have p1 : IntKind.u64.wrap (y1 : Int) = (y1 : Int) := by rw [IntKind.wrap_u64]; omega
      have p2 : IntKind.u64.wrap (y2 : Int) = (y2 : Int) := by rw [IntKind.wrap_u64]; omega
      have p3 : IntKind.u64.wrap (y3 : Int) = (y3 : Int) := by rw [IntKind.wrap_u64]; omega
      have g0 := (HC.out _).trans HG0.out
      have f0 := (HC.out _).trans HF0.out
      go_wp2
      refine wp_region_still_tail 13 (by kernel_rfl) (by kernel_rfl) ?_
      simp only [List.take_succ_cons, List.take_zero, List.drop_succ_cons, List.drop_zero]
      repeat still_step
      still_call (q0.out _)
      repeat still_step
      refine wpStill_nil ?_
      go_wp2
      obtain ⟨w1, hw1⟩ : ∃ w1 : World, w1 = { wr with drawn := wr.drawn + 1 } := ⟨_, rfl⟩
      rw [← hw1]
      have HC1 : Hid (∀ p, w1.cell? p = w.cell? p) := Lib.hid (fun p => by rw [hw1]; exact HC.out p)
      have HT1 : Hid (w1 = w.drewN (t + 1)) := Lib.hid (by rw [hw1, HT.out]; rfl)
      have g1 := (HC1.out _).trans HG1.out
      have f1 := (HC1.out _).trans HF1.out
      clear hw1
      refine wp_region_still_tail 15 (by kernel_rfl) (by kernel_rfl) ?_
      simp only [List.take_succ_cons, List.take_zero, List.drop_succ_cons, List.drop_zero]
      repeat still_step
      still_call (q1.out _)
      repeat still_step
      refine wpStill_nil ?_
      go_wp2
      obtain ⟨w2, hw2⟩ : ∃ w2 : World, w2 = { w1 with drawn := w1.drawn + 1 } := ⟨_, rfl⟩
      rw [← hw2]
      have HC2 : Hid (∀ p, w2.cell? p = w.cell? p) := Lib.hid (fun p => by rw [hw2]; exact HC1.out p)
      have HT2 : Hid (w2 = w.drewN (t + 2)) := Lib.hid (by rw [hw2, HT1.out]; rfl)
      have g2 := (HC2.out _).trans HG2.out
      have f2 := (HC2.out _).trans HF2.out
      clear hw2
      refine wp_region_still_tail 15 (by kernel_rfl) (by kernel_rfl) ?_
      simp only [List.take_succ_cons, List.take_zero, List.drop_succ_cons, List.drop_zero]
      repeat still_step
      still_call (q2.out _)
      repeat still_step
      refine wpStill_nil ?_
      go_wp2
      obtain ⟨w3, hw3⟩ : ∃ w3 : World, w3 = { w2 with drawn := w2.drawn + 1 } := ⟨_, rfl⟩
      rw [← hw3]
      have HC3 : Hid (∀ p, w3.cell? p = w.cell? p) := Lib.hid (fun p => by rw [hw3]; exact HC2.out p)
      have HT3 : Hid (w3 = w.drewN (t + 3)) := Lib.hid (by rw [hw3, HT2.out]; rfl)
      have g3 := (HC3.out _).trans HG3.out
      have f3 := (HC3.out _).trans HF3.out
      clear hw3
      refine wp_region_still_tail 15 (by kernel_rfl) (by kernel_rfl) ?_
      simp only [List.take_succ_cons, List.take_zero, List.drop_succ_cons, List.drop_zero]
      repeat still_step
      still_call (q3.out _)
      repeat still_step
      refine wpStill_nil ?_
      go_wp2
      have hs := HS.out
      have hn4 := HN.out
      go_roundw
      case rel => exact ⟨k + 4, n0 + y0, n1 + y1, n2 + y2, n3 + y3, t + 4, by go_num, by go_num, by go_num, by go_num, by go_num, by omega, by omega, by omega, by omega, by omega, Lib.hid (by omega), Lib.hid (by rw [HT3.out]; rfl)⟩
      case measure => simp [intOf]; omega
    · have hge : ¬ (k : Int) ≤ (n : Int) - 4 := by omega
      have hs := HS.out
      go_wp2
      go_loopw [4, 10] (fun c i wr => ∃ k m t : Nat, c = .int .u64 (m : Int) ∧ i = .int .i64 (k : Int) ∧ k ≤ n ∧ Hid (m = countW Z (64 * k)) ∧ Hid (wr = w.drewN t)) (fun _ i _ => n - (intOf i).toNat)
      case atStart => exact ⟨k, n0 + n1 + n2 + n3, t, by go_num, rfl, hk, Lib.hid hs, HT⟩
      case round =>
        clear HC HT
        obtain ⟨k, m, t, rfl, rfl, hk, HM, HT⟩ := hrel
        rename_i wr
        have HC : Hid (∀ p, wr.cell? p = w.cell? p) := Lib.hid (by rw [HT.out]; exact fun _ => rfl)
        by_cases hlt : k < n
        · have hlt' : (k : Int) < (n : Int) := by omega
          have g0 := (HC.out _).trans (H.out.cell k (by omega))
          have f0 := (HC.out _).trans (H2.out.cell k (by omega))
          have e0 := HE.out k (by omega)
          have HN := Lib.hid (countW_next Z k)
          have hle := countW_le Z (64 * (k + 1))
          have q0 := Lib.hid (fun wx => onesCount _ (HW.out k (by omega)) wx)
          have z0 := cnt_le 64 (Z.getD k 0)
          have hmle : m ≤ 64 * n := by have h1 := HM.out; have h2 := countW_le Z (64 * k); omega
          generalize cnt 64 (Z.getD k 0) = y0 at *
          generalize Z.getD k 0 = v0 at *
          generalize l.getD k 0 = x0 at *
          generalize l2.getD k 0 = s0 at *
          have r0 : IntKind.u64.wrap ((m : Int) + (y0 : Int)) = (m : Int) + (y0 : Int) := by rw [IntKind.wrap_u64]; omega
          have p0 : IntKind.u64.wrap (y0 : Int) = (y0 : Int) := by rw [IntKind.wrap_u64]; omega
          go_wp2
          refine wp_region_still_tail 13 (by kernel_rfl) (by kernel_rfl) ?_
          simp only [List.take_succ_cons, List.take_zero, List.drop_succ_cons, List.drop_zero]
          repeat still_step
          still_call (q0.out _)
          repeat still_step
          refine wpStill_nil ?_
          go_wp2
          go_roundw
          case rel => exact ⟨k + 1, m + y0, t + 1, by go_num, by go_num, by omega, Lib.hid (by rw [HM.out, HN.out]), Lib.hid (by rw [HT.out]; rfl)⟩
          case measure => simp [intOf]; omega
        · obtain rfl : k = n := by omega
          have hge : ¬ (k : Int) < (k : Int) := by omega
          have hm := HM.out
          subst hm
          go_wp2
          go_ret
          exact ⟨rfl, t, HT.out⟩
end Go.Proofs.Ythnfoiaemeklnaa.bs

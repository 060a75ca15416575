/-
  Bitsets: popcntOrSlice, UnionCardinality.
-/
import Derived.Test.YthnfoiaemeklnaaBsCard2
import Derived.Test.YthnfoiaemeklnaaBsComp
namespace Go.Proofs.Ythnfoiaemeklnaa.bs
open Go.RowKit Go.Proofs.Ythnfoiaemeklnaa.base Go.Proofs.Ythnfoiaemeklnaa.heap Go.Proofs.Ythnfoiaemeklnaa.bit
set_option linter.unusedVariables false
open Go.Proofs.Ythnfoiaemeklnaa.pop64

def orW (x y : Nat) : Nat := x ||| y

set_option maxRecDepth 100000 in
set_option maxHeartbeats 3200000 in
theorem popcntOr (b b2 off off2 cap cap2 n n2 : Nat) (l l2 : List Nat) (w : World) (h : Row w b off l n) (h2 : Row w b2 off2 l2 n2) (h0 : 0 < n) (hle2 : n ≤ n2) (hn : n ≤ 1048576) :
    Calls Try.prog 82 #[.slice (some ⟨b, off, none⟩) n cap, .slice (some ⟨b2, off2, none⟩) n2 cap2] w fun e w' => e = .returned (.int .u64 (countW (zipW orW l l2 n) (64 * n) : Int)) ∧ ∃ m, w' = w.drewN m := by
  have H := Lib.hid h
  have H2 := Lib.hid h2
  have z := h2.cell (n - 1) (by omega)
  have HZ : Hid (∀ i, i < n → (zipW orW l l2 n).getD i 0 = orW (l.getD i 0) (l2.getD i 0)) := Lib.hid (fun i hi => zipW_get _ _ _ _ _ hi)
  have HW : Hid (∀ i, i < n → Lt64 ((zipW orW l l2 n).getD i 0)) := Lib.hid (fun i hi => by rw [HZ.out i hi]; exact lt64_or (H.out.fits.at i) (H2.out.fits.at i))
  have HE : Hid (∀ i, i < n → bits .or .u64 (l.getD i 0 : Int) (l2.getD i 0 : Int) = ((zipW orW l l2 n).getD i 0 : Int)) := Lib.hid (fun i hi => by rw [HZ.out i hi]; exact or_nat (H.out.fits.at i) (H2.out.fits.at i))
  generalize zipW orW l l2 n = Z at *
  have zi : ((n : Int) - 1).toNat = n - 1 := by omega
  have zj : (n : Int) - 1 < (n2 : Int) := by omega
  have zl : (0 : Int) ≤ (n : Int) - 1 := by omega
  clear h h2 HZ
  generalize l2.getD (n - 1) 0 = u2 at *
  go_enter Try.func82, Try.ntmps82
  go_wp2
  clear z zi zj zl
  go_loopw [4, 14] (fun c i wr => ∃ k m t : Nat, c = .int .u64 (m : Int) ∧ i = .int .i64 (k : Int) ∧ k ≤ n ∧ Hid (m = countW Z (64 * k)) ∧ Hid (wr = w.drewN t)) (fun _ i _ => n - (intOf i).toNat)
  case atStart => exact ⟨0, 0, 0, rfl, rfl, Nat.zero_le _, Lib.hid rfl, Lib.hid rfl⟩
  case round =>
    obtain ⟨k, m, t, rfl, rfl, hk, HM, HT⟩ := hrel
    have HC : Hid (∀ p, wr.cell? p = w.cell? p) := Lib.hid (by rw [HT.out]; exact fun _ => rfl)
    by_cases hlt : k < n
    · have hlt' : (k : Int) < (n : Int) := by omega
      have hlt2 : (k : Int) < (n2 : Int) := by omega
      have g0 := (HC.out _).trans (H.out.cell k (by omega))
      have f0 := (HC.out _).trans (H2.out.cell k (by omega))
      have e0 := HE.out k (by omega)
      have HN := Lib.hid (countW_next Z k)
      have hle := countW_le Z (64 * (k + 1))
      have q0 := Lib.hid (fun wx => onesCount _ (HW.out k (by omega)) wx)
      have z0 := cnt_le 64 (Z.getD k 0)
      have hmle : m ≤ 64 * n := by have h1 := HM.out; have h2 := countW_le Z (64 * k); omega
      generalize cnt 64 (Z.getD k 0) = y0 at *
      generalize Z.getD k 0 = v0 at *
      generalize l.getD k 0 = x0 at *
      generalize l2.getD k 0 = s0 at *
      have r0 : IntKind.u64.wrap ((m : Int) + (y0 : Int)) = (m : Int) + (y0 : Int) := by rw [IntKind.wrap_u64]; omega
      have p0 : IntKind.u64.wrap (y0 : Int) = (y0 : Int) := by rw [IntKind.wrap_u64]; omega
      go_wp2
      refine wp_region_still_tail 13 (by kernel_rfl) (by kernel_rfl) ?_
      simp only [List.take_succ_cons, List.take_zero, List.drop_succ_cons, List.drop_zero]
      repeat still_step
      still_call (q0.out _)
      repeat still_step
      refine wpStill_nil ?_
      go_wp2
      go_roundw
      case rel => exact ⟨k + 1, m + y0, t + 1, by go_num, by go_num, by omega, Lib.hid (by rw [HM.out, HN.out]), Lib.hid (by rw [HT.out]; rfl)⟩
      case measure => simp [intOf]; omega
    · obtain rfl : k = n := by omega
      have hge : ¬ (k : Int) < (k : Int) := by omega
      have hm := HM.out
      subst hm
      go_wp2
      go_ret
      exact ⟨rfl, t, HT.out⟩

theorem card_union {s l : O} {bs bl : List Bool} (r1 : s.rep bs) (r2 : l.rep bl) (hle : bs.length ≤ bl.length) (hm : s.m ≤ l.m) :
    countW (zipW orW s.ws l.ws s.m) (64 * s.m) + countW (l.ws.drop s.m) (64 * (l.m - s.m)) = (ones (twoL (fun x y => x || y) bs bl bl.length)).length := by
  rw [← card_split]
  refine countW_all (fun j => ?_) (by rw [twoL_len]; have := r2.room; omega)
  rw [bit_cat orW (fun x y => x || y) _ _ _ _ _ (fun k c _ hc => Nat.testBit_or _ _ _), twoL_far _ rfl _ _ _ _ ⟨hle, Nat.le_refl _⟩, r1.bits, r2.bits]
  by_cases c : j < 64 * s.m
  · rw [if_pos c]
  · rw [if_neg c]
    have := r1.room
    have : bs.getD j false = false := by simp [show bs.length ≤ j by omega]
    rw [this]; simp

set_option maxRecDepth 100000 in
set_option maxHeartbeats 1600000 in
theorem unionCard_core (p1 p2 : Nat) (s l : O) (bs bl : List Bool) (w : World) (h1 : s.ok w) (h2 : l.ok w) (r1 : s.rep bs) (r2 : l.rep bl) (hle : bs.length ≤ bl.length) (ts : s.m = (bs.length + 63) / 64) (tl : l.m = (bl.length + 63) / 64) (hn : bl.length ≤ 1048000)
    (hs : Calls Try.prog 79 #[.pointer (some ⟨p1, 0, none⟩), .pointer (some ⟨p2, 0, none⟩)] w fun e w' => e = .returned (.tuple #[s.ptr, l.ptr]) ∧ ∃ m, w' = w.drewN m) :
    Calls Try.prog 68 #[.pointer (some ⟨p1, 0, none⟩), .pointer (some ⟨p2, 0, none⟩)] w (FV w (.int .u64 ((ones (twoL (fun x y => x || y) bs bl bl.length)).length : Int))) := by
  have hsm : s.m ≤ l.m := by rw [ts, tl]; omega
  have hmb : l.m ≤ 20000 := by omega
  have hfin := card_union r1 r2 hle hsm
  have hdle : (ones (twoL (fun x y => x || y) bs bl bl.length)).length ≤ 1048000 := Nat.le_trans (ones_le _) (by rw [twoL_len]; exact hn)
  generalize (ones (twoL (fun x y => x || y) bs bl bl.length)).length = d at *
  obtain ⟨ab, hab, -⟩ := h1.facts
  obtain ⟨bb, hbb, -⟩ := h2.facts
  have hcap1 := h1.own.bound
  have hcap2 := h2.own.bound
  have HS := Lib.hid hs
  have HCS : Hid (∀ wx : World, wx.heap = w.heap → (wx.cell? ⟨s.p, 0, none⟩ = some (.int .u64 (s.n : Int)) ∧ wx.cell? ⟨s.p, 1, none⟩ = some (.slice (some ⟨ab, 0, none⟩) s.m s.cap) ∧ wx.cell? ⟨l.p, 0, none⟩ = some (.int .u64 (l.n : Int)) ∧ wx.cell? ⟨l.p, 1, none⟩ = some (.slice (some ⟨bb, 0, none⟩) l.m l.cap))) := Lib.hid (fun wx hh => by
    obtain ⟨s0, s1, -⟩ := having_facts (o := s) (ws := s.ws) (h1.of_heap hh) hab
    obtain ⟨t0, t1, -⟩ := having_facts (o := l) (ws := l.ws) (h2.of_heap hh) hbb
    exact ⟨s0, s1, t0, t1⟩)
  have HP : Hid (0 < s.m → ∀ wx : World, wx.heap = w.heap → Calls Try.prog 82 #[.slice (some ⟨ab, 0, none⟩) s.m s.cap, .slice (some ⟨bb, 0, none⟩) l.m l.cap] wx fun e w' => e = .returned (.int .u64 (countW (zipW orW s.ws l.ws s.m) (64 * s.m) : Int)) ∧ ∃ m, w' = wx.drewN m) := Lib.hid (fun h0 wx hh =>
    popcntOr ab bb 0 0 s.cap l.cap s.m l.m s.ws l.ws wx (Row.head (h1.of_heap hh) hab (Nat.le_refl _)) (Row.head (h2.of_heap hh) hbb (Nat.le_refl _)) h0 hsm (by omega))
  have HQ : Hid (∀ wx : World, wx.heap = w.heap → Calls Try.prog 73 #[.slice (some ⟨bb, s.m, none⟩) (l.m - s.m) (l.cap - s.m)] wx fun e w' => e = .returned (.int .u64 (countW (l.ws.drop s.m) (64 * (l.m - s.m)) : Int)) ∧ ∃ m, w' = wx.drewN m) := Lib.hid (fun wx hh =>
    popcnt bb s.m (l.cap - s.m) (l.m - s.m) (l.ws.drop s.m) wx (Row.tail (h2.of_heap hh) hbb hsm) (by omega))
  have HZ1 : Hid (s.m = 0 → countW (zipW orW s.ws l.ws s.m) (64 * s.m) = 0) := Lib.hid (fun h => by rw [h]; rfl)
  have HZ2 : Hid (l.m = s.m → countW (l.ws.drop s.m) (64 * (l.m - s.m)) = 0) := Lib.hid (fun h => by rw [h, Nat.sub_self]; rfl)
  generalize countW (zipW orW s.ws l.ws s.m) (64 * s.m) = y1 at *
  generalize countW (l.ws.drop s.m) (64 * (l.m - s.m)) = y2 at *
  obtain ⟨hcap1, hcap1'⟩ := hcap1
  obtain ⟨hcap2, hcap2'⟩ := hcap2
  have hr1 : IntKind.u64.wrap ((y1 : Int) + (y2 : Int)) = (y1 : Int) + (y2 : Int) := by rw [IntKind.wrap_u64]; omega
  have hr2 : IntKind.u64.wrap (y1 : Int) = (y1 : Int) := by rw [IntKind.wrap_u64]; omega
  have hr3 : IntKind.u64.wrap (y2 : Int) = (y2 : Int) := by rw [IntKind.wrap_u64]; omega
  have v1 : (s.m : Int) ≤ (l.m : Int) := by omega
  have v2 : (s.m : Int) ≤ (l.cap : Int) := by omega
  clear hs h1 h2 r1 r2 ts tl hab hbb
  unfold O.ptr at *
  generalize s.m = sm at *
  generalize l.m = lm at *
  have hcase : (0 < sm ∧ sm < lm) ∨ (0 < sm ∧ lm = sm) ∨ (sm = 0 ∧ sm < lm) ∨ (sm = 0 ∧ lm = sm) := by omega
  rcases hcase with ⟨q1, q2⟩ | ⟨q1, q2⟩ | ⟨q1, q2⟩ | ⟨q1, q2⟩
  · have g1 : (0 : Int) < (sm : Int) := by omega
    have g2 : (sm : Int) < (lm : Int) := by omega
    have g3 : ¬ l.cap = sm := by omega
    go_enter Try.func68, Try.ntmps68
    go_wp2_with (go_at_call 74; (with_reducible refine (notNil2 _ _).mono ?_); rintro e w1 ⟨rfl, rfl⟩)
    refine HS.out.mono ?_
    rintro e w1 ⟨rfl, t, rfl⟩
    have HH : Hid ((w.drewN t).heap = w.heap) := Lib.hid rfl
    have HSW : Hid (Same w (w.drewN t)) := Lib.hid ((Only.refl _ w).drewN t)
    generalize w.drewN t = w1 at *
    obtain ⟨s0, s1, t0, t1⟩ := HCS.out w1 HH.out
    go_wp2_with fail
    go_quiet ((go_at_call 82; exact Calls.quiet_of (HP.out q1 _ (by exact HH.out))))
    have HH' : Hid ((w1.drewN nq).heap = w.heap) := Lib.hid HH.out
    have HSW' : Hid (Same w (w1.drewN nq)) := Lib.hid (HSW.out.drewN nq)
    clear s0 s1 t0 t1 HH HSW
    have HH := HH'
    have HSW := HSW'
    clear HH' HSW'
    generalize hwq : w1.drewN nq = wq at *
    clear hwq
    clear w1
    obtain ⟨w1, hw1⟩ : ∃ w1, w1 = wq := ⟨_, rfl⟩
    subst hw1
    obtain ⟨s0, s1, t0, t1⟩ := HCS.out w1 HH.out
    go_wp2_with fail
    go_quiet (fail)
    have HH' : Hid ((w1.drewN nq).heap = w.heap) := Lib.hid HH.out
    have HSW' : Hid (Same w (w1.drewN nq)) := Lib.hid (HSW.out.drewN nq)
    clear s0 s1 t0 t1 HH HSW
    have HH := HH'
    have HSW := HSW'
    clear HH' HSW'
    generalize hwq : w1.drewN nq = wq at *
    clear hwq
    clear w1
    obtain ⟨w1, hw1⟩ : ∃ w1, w1 = wq := ⟨_, rfl⟩
    subst hw1
    obtain ⟨s0, s1, t0, t1⟩ := HCS.out w1 HH.out
    go_wp2_with fail
    go_quiet ((go_at_call 73; exact Calls.quiet_of (HQ.out _ (by exact HH.out))))
    have HH' : Hid ((w1.drewN nq).heap = w.heap) := Lib.hid HH.out
    have HSW' : Hid (Same w (w1.drewN nq)) := Lib.hid (HSW.out.drewN nq)
    clear s0 s1 t0 t1 HH HSW
    have HH := HH'
    have HSW := HSW'
    clear HH' HSW'
    generalize hwq : w1.drewN nq = wq at *
    clear hwq
    clear w1
    obtain ⟨w1, hw1⟩ : ∃ w1, w1 = wq := ⟨_, rfl⟩
    subst hw1
    obtain ⟨s0, s1, t0, t1⟩ := HCS.out w1 HH.out
    go_wp2_with fail
    go_ret
    exact ⟨ret_int (by omega), by repeat (first | exact HSW.out | apply Only.drewN | apply Only.drew)⟩
  · have g1 : (0 : Int) < (sm : Int) := by omega
    have g2 : ¬ (sm : Int) < (lm : Int) := by omega
    have y0 : y2 = 0 := HZ2.out q2
    subst q2
    go_enter Try.func68, Try.ntmps68
    go_wp2_with (go_at_call 74; (with_reducible refine (notNil2 _ _).mono ?_); rintro e w1 ⟨rfl, rfl⟩)
    refine HS.out.mono ?_
    rintro e w1 ⟨rfl, t, rfl⟩
    have HH : Hid ((w.drewN t).heap = w.heap) := Lib.hid rfl
    have HSW : Hid (Same w (w.drewN t)) := Lib.hid ((Only.refl _ w).drewN t)
    generalize w.drewN t = w1 at *
    obtain ⟨s0, s1, t0, t1⟩ := HCS.out w1 HH.out
    go_wp2_with fail
    go_quiet ((go_at_call 82; exact Calls.quiet_of (HP.out q1 _ (by exact HH.out))))
    have HH' : Hid ((w1.drewN nq).heap = w.heap) := Lib.hid HH.out
    have HSW' : Hid (Same w (w1.drewN nq)) := Lib.hid (HSW.out.drewN nq)
    clear s0 s1 t0 t1 HH HSW
    have HH := HH'
    have HSW := HSW'
    clear HH' HSW'
    generalize hwq : w1.drewN nq = wq at *
    clear hwq
    clear w1
    obtain ⟨w1, hw1⟩ : ∃ w1, w1 = wq := ⟨_, rfl⟩
    subst hw1
    obtain ⟨s0, s1, t0, t1⟩ := HCS.out w1 HH.out
    go_wp2_with fail
    go_quiet (fail)
    have HH' : Hid ((w1.drewN nq).heap = w.heap) := Lib.hid HH.out
    have HSW' : Hid (Same w (w1.drewN nq)) := Lib.hid (HSW.out.drewN nq)
    clear s0 s1 t0 t1 HH HSW
    have HH := HH'
    have HSW := HSW'
    clear HH' HSW'
    generalize hwq : w1.drewN nq = wq at *
    clear hwq
    clear w1
    obtain ⟨w1, hw1⟩ : ∃ w1, w1 = wq := ⟨_, rfl⟩
    subst hw1
    obtain ⟨s0, s1, t0, t1⟩ := HCS.out w1 HH.out
    go_wp2_with fail
    go_ret
    exact ⟨ret_int (by omega), by repeat (first | exact HSW.out | apply Only.drewN | apply Only.drew)⟩
  · have g1 : ¬ (0 : Int) < (sm : Int) := by omega
    have g1n : ¬ 0 < sm := by omega
    have g2 : (sm : Int) < (lm : Int) := by omega
    have g3 : ¬ l.cap = sm := by omega
    have y0 : y1 = 0 := HZ1.out q1
    clear q1
    go_enter Try.func68, Try.ntmps68
    go_wp2_with (go_at_call 74; (with_reducible refine (notNil2 _ _).mono ?_); rintro e w1 ⟨rfl, rfl⟩)
    refine HS.out.mono ?_
    rintro e w1 ⟨rfl, t, rfl⟩
    have HH : Hid ((w.drewN t).heap = w.heap) := Lib.hid rfl
    have HSW : Hid (Same w (w.drewN t)) := Lib.hid ((Only.refl _ w).drewN t)
    generalize w.drewN t = w1 at *
    obtain ⟨s0, s1, t0, t1⟩ := HCS.out w1 HH.out
    go_wp2_with fail
    go_quiet (fail)
    have HH' : Hid ((w1.drewN nq).heap = w.heap) := Lib.hid HH.out
    have HSW' : Hid (Same w (w1.drewN nq)) := Lib.hid (HSW.out.drewN nq)
    clear s0 s1 t0 t1 HH HSW
    have HH := HH'
    have HSW := HSW'
    clear HH' HSW'
    generalize hwq : w1.drewN nq = wq at *
    clear hwq
    clear w1
    obtain ⟨w1, hw1⟩ : ∃ w1, w1 = wq := ⟨_, rfl⟩
    subst hw1
    obtain ⟨s0, s1, t0, t1⟩ := HCS.out w1 HH.out
    go_wp2_with fail
    go_quiet ((go_at_call 73; exact Calls.quiet_of (HQ.out _ (by exact HH.out))))
    have HH' : Hid ((w1.drewN nq).heap = w.heap) := Lib.hid HH.out
    have HSW' : Hid (Same w (w1.drewN nq)) := Lib.hid (HSW.out.drewN nq)
    clear s0 s1 t0 t1 HH HSW
    have HH := HH'
    have HSW := HSW'
    clear HH' HSW'
    generalize hwq : w1.drewN nq = wq at *
    clear hwq
    clear w1
    obtain ⟨w1, hw1⟩ : ∃ w1, w1 = wq := ⟨_, rfl⟩
    subst hw1
    obtain ⟨s0, s1, t0, t1⟩ := HCS.out w1 HH.out
    go_wp2_with fail
    go_ret
    exact ⟨ret_int (by omega), by repeat (first | exact HSW.out | apply Only.drewN | apply Only.drew)⟩
  · have g1 : ¬ (0 : Int) < (sm : Int) := by omega
    have g1n : ¬ 0 < sm := by omega
    have g2 : ¬ (sm : Int) < (lm : Int) := by omega
    have y0 : y1 = 0 := HZ1.out q1
    have y02 : y2 = 0 := HZ2.out q2
    go_enter Try.func68, Try.ntmps68
    go_wp2_with (go_at_call 74; (with_reducible refine (notNil2 _ _).mono ?_); rintro e w1 ⟨rfl, rfl⟩)
    refine HS.out.mono ?_
    rintro e w1 ⟨rfl, t, rfl⟩
    have HH : Hid ((w.drewN t).heap = w.heap) := Lib.hid rfl
    have HSW : Hid (Same w (w.drewN t)) := Lib.hid ((Only.refl _ w).drewN t)
    generalize w.drewN t = w1 at *
    obtain ⟨s0, s1, t0, t1⟩ := HCS.out w1 HH.out
    go_wp2_with fail
    go_quiet (fail)
    have HH' : Hid ((w1.drewN nq).heap = w.heap) := Lib.hid HH.out
    have HSW' : Hid (Same w (w1.drewN nq)) := Lib.hid (HSW.out.drewN nq)
    clear s0 s1 t0 t1 HH HSW
    have HH := HH'
    have HSW := HSW'
    clear HH' HSW'
    generalize hwq : w1.drewN nq = wq at *
    clear hwq
    clear w1
    obtain ⟨w1, hw1⟩ : ∃ w1, w1 = wq := ⟨_, rfl⟩
    subst hw1
    obtain ⟨s0, s1, t0, t1⟩ := HCS.out w1 HH.out
    go_wp2_with fail
    go_ret
    exact ⟨ret_int (by omega), by repeat (first | exact HSW.out | apply Only.drewN | apply Only.drew)⟩

theorem unionCard (o o2 : O) (b b2 : List Bool) (w : World) (h : o.ok w) (h2 : o2.ok w) (r1 : o.rep b) (r2 : o2.rep b2) (t1 : o.m = (b.length + 63) / 64) (t2 : o2.m = (b2.length + 63) / 64) (hn : b.length ≤ 1048000) (hn2 : b2.length ≤ 1048000) :
    Calls Try.prog 68 #[o.ptr, o2.ptr] w (FV w (.int .u64 ((ones (twoL (fun x y => x || y) b b2 (max b.length b2.length))).length : Int))) := by
  have hs := sortByLength o o2 w h h2
  rw [r1.len, r2.len] at hs
  by_cases hle : b.length ≤ b2.length
  · rw [if_pos hle] at hs
    rw [Nat.max_eq_right hle]
    exact unionCard_core o.p o2.p o o2 b b2 w h h2 r1 r2 hle t1 t2 hn2 hs
  · rw [if_neg hle] at hs
    rw [Nat.max_eq_left (by omega), twoL_comm _ (fun x y => Bool.or_comm x y)]
    exact unionCard_core o.p o2.p o2 o b2 b w h2 h r2 r1 (by omega) t2 t1 hn hs
end Go.Proofs.Ythnfoiaemeklnaa.bs

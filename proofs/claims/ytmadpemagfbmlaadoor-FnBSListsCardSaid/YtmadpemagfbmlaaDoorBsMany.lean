/-
  Bitsets: NextSetMany: the places of so many bits that are set, from a place on.
-/
import Derived.Test.YtmadpemagfbmlaaDoorBsAsS
namespace Go.Proofs.YtmadpemagfbmlaaDoor.bs
open Go.RowKit Go.Proofs.YtmadpemagfbmlaaDoor.base Go.Proofs.YtmadpemagfbmlaaDoor.heap Go.Proofs.YtmadpemagfbmlaaDoor.bit
set_option linter.unusedVariables false

/-- the places from i on, ahead of c -/
def Fr (b : List Bool) (i c : Nat) : List Nat := (onesTo b c).filter fun q => decide (i ≤ q)
theorem Fr.start (b : List Bool) (i : Nat) : Fr b i i = [] := by
  unfold Fr
  rw [List.filter_eq_nil_iff]
  intro q hq
  have := (mem_onesTo.1 hq).1
  simp; omega
theorem Fr.step {b : List Bool} {i c q : Nat} (hiq : i ≤ q) (h : onesTo b (q + 1) = onesTo b c ++ [q]) : Fr b i (q + 1) = Fr b i c ++ [q] := by
  unfold Fr
  rw [h, List.filter_append, List.filter_cons, decide_eq_true hiq]; rfl
theorem Fr.gap {b : List Bool} {i c d : Nat} (h : onesTo b d = onesTo b c) : Fr b i d = Fr b i c := by unfold Fr; rw [h]
theorem Fr.pre (b : List Bool) (i c : Nat) : ∃ r, (ones b).filter (fun q => decide (i ≤ q)) = Fr b i c ++ r := by
  by_cases h : b.length ≤ c
  · exact ⟨[], by unfold Fr; rw [onesTo_far b h]; simp⟩
  · obtain ⟨r, hr⟩ := onesTo_pre b (i := c) (k := b.length) (by omega)
    exact ⟨r.filter (fun q => decide (i ≤ q)), by unfold Fr ones; rw [hr, List.filter_append]⟩
/-- what is wanted: the first C of them -/
def Many (b : List Bool) (i C : Nat) : List Nat := ((ones b).filter fun q => decide (i ≤ q)).take C
theorem Many.full {b : List Bool} {i c C : Nat} (h : (Fr b i c).length = C) : Many b i C = Fr b i c := by
  obtain ⟨r, hr⟩ := Fr.pre b i c
  unfold Many
  rw [hr, ← h, List.take_left]
theorem Many.all {b : List Bool} {i c C : Nat} (hc : b.length ≤ c) (h : (Fr b i c).length ≤ C) : Many b i C = Fr b i c := by
  have e : (ones b).filter (fun q => decide (i ≤ q)) = Fr b i c := by unfold Fr; rw [onesTo_far b hc]
  unfold Many
  rw [e, List.take_of_length_le h]
theorem Many.far {b : List Bool} {i C : Nat} (h : b.length ≤ i) : Many b i C = [] := by
  unfold Many
  have : (ones b).filter (fun q => decide (i ≤ q)) = [] := by
    rw [List.filter_eq_nil_iff]
    intro q hq
    have := ones_lt hq
    simp; omega
  rw [this]; exact List.take_nil
/-- the bits of word k from bit r on, from place p on, moved down by r -/
def ShW (S : List Nat) (k r p y : Nat) : Prop := Lt64 y ∧ p ≤ 64 ∧ ∀ j, y.testBit j = (decide (p ≤ j) && (S.getD k 0).testBit (j + r))
theorem ShW.start {S : List Nat} (hS : ∀ i, Lt64 (S.getD i 0)) (k r : Nat) : ShW S k r 0 (S.getD k 0 / 2 ^ r) :=
  ⟨Nat.lt_of_le_of_lt (Nat.div_le_self _ _) (hS k), by omega, fun j => by rw [Nat.testBit_div_two_pow]; simp⟩
theorem ShW.step {o : O} {b : List Bool} {i k r p y t : Nat} (h : ShW o.ws k r p y) (hS : ∀ i, Lt64 (o.ws.getD i 0)) (hr : o.rep b) (hi : i = 64 * k + r) (hl : Low y t) (ht : t < 64) :
    p ≤ t ∧ r + t < 64 ∧ Fr b i (i + (t + 1)) = Fr b i (i + p) ++ [i + t] ∧ ShW o.ws k r (t + 1) (y &&& (y - 1)) := by
  have h0 := hl.1
  rw [h.2.2] at h0
  simp only [Bool.and_eq_true, decide_eq_true_eq] at h0
  have hrt : t + r < 64 := by
    refine Classical.byContradiction fun hge => ?_
    rw [testBit_far (hS k) (by omega)] at h0
    exact absurd h0.2 (by simp)
  refine ⟨h0.1, by omega, ?_, lt64_and h.1, by omega, fun j => ?_⟩
  · have h1 : onesTo b (i + p + (t - p)) = onesTo b (i + p) := onesTo_gap b _ fun q hq hq2 => by
      obtain ⟨c, rfl⟩ : ∃ c, q = i + c := ⟨q - i, by omega⟩
      have h2 := hl.2 c (by omega)
      rw [h.2.2, decide_eq_true (by omega), Bool.true_and] at h2
      rw [hi, Nat.add_assoc, word_at hr k (r + c) (by omega), Nat.add_comm r c, h2]
    rw [show i + p + (t - p) = i + t by omega] at h1
    refine Fr.step (q := i + t) (by omega) ?_
    rw [onesTo_yes b _ (by rw [hi, Nat.add_assoc, word_at hr k (r + t) (by omega), Nat.add_comm r t, h0.2]), h1]
  · rw [clear_low hl, h.2.2]
    by_cases hj : t < j
    · rw [decide_eq_true hj, decide_eq_true (show p ≤ j by omega), decide_eq_true (show t + 1 ≤ j by omega)]; simp
    · rw [decide_eq_false hj, decide_eq_false (show ¬ t + 1 ≤ j by omega)]; simp
theorem ShW.fin {o : O} {b : List Bool} {i k r p : Nat} (h : ShW o.ws k r p 0) (hr : o.rep b) (hi : i = 64 * k + r) (hr64 : r < 64) (hp : r + p ≤ 64) : Fr b i (64 * (k + 1)) = Fr b i (i + p) := by
  refine Fr.gap ?_
  have h1 : onesTo b (i + p + (64 - r - p)) = onesTo b (i + p) := onesTo_gap b _ fun q hq hq2 => by
    obtain ⟨c, rfl⟩ : ∃ c, q = i + c := ⟨q - i, by omega⟩
    have h2 := h.2.2 c
    rw [Nat.zero_testBit, decide_eq_true (by omega), Bool.true_and] at h2
    rw [hi, Nat.add_assoc, word_at hr k (r + c) (by omega), Nat.add_comm r c, ← h2]
  rw [show i + p + (64 - r - p) = 64 * (k + 1) by omega] at h1
  exact h1
theorem LeftW.many {o : O} {b : List Bool} {i k p x t : Nat} (h : LeftW o.ws k p x) (hr : o.rep b) (hl : Low x t) (ht : t < 64) (hi : i ≤ 64 * k) : Fr b i (64 * k + (t + 1)) = Fr b i (64 * k + p) ++ [64 * k + t] :=
  Fr.step (q := 64 * k + t) (by omega) (h.step hr hl ht).2.1

set_option maxRecDepth 100000 in
set_option maxHeartbeats 12800000 in
theorem nextSetMany (o : O) (b : List Bool) (i g C : Nat) (w : World) (h : o.ok w) (hr : o.rep b) (hT : Tab w) (hC1 : 1 ≤ C) (hC2 : C ≤ 1000) (hown : Rw g C [] w) (hm : o.m ≤ 1000) (hi : i ≤ 60000)
    (hw0 : 0 < w.heap.size) (hg0 : g ≠ 0) (hgf : ¬ o.foot g) :
    Calls Tryd.prog 12 #[o.ptr, .int .u64 (i : Int), .slice (some ⟨g, 0, none⟩) C C] w fun e w' => ∃ v n : Nat, e = .returned (.tuple #[.int .u64 (v : Int), .slice (some ⟨g, 0, none⟩) n C]) ∧ RU w' (some ⟨g, 0, none⟩) n C (Many b i C) ∧ Only (fun j => j = g) w w' := by
  obtain ⟨bb, hbb, hp, hbl, hne, c0, c1, f0, f1, hcs, hfr, hbd1, hbd2⟩ := h.facts
  have hbbB : ¬ bb = g := fun e => hgf (.inr (by rw [hbb]; exact e))
  have hpB : ¬ o.p = g := fun e => hgf (.inl e.symm)
  have hg1 : ¬ 0 = g := fun e => hg0 e.symm
  have HSall : Hid (∀ i, Lt64 (o.ws.getD i 0)) := Lib.hid (fun i => h.fits.at i)
  have HR := Lib.hid hr
  have HT := Lib.hid hT
  have HCS := Lib.hid hcs
  have HROOM := Lib.hid hr.room
  have HOWN := Lib.hid hown
  obtain ⟨k, hk⟩ : ∃ k, i / 64 = k := ⟨_, rfl⟩
  have hki : (i : Int) / 64 = (k : Int) := by omega
  obtain ⟨r, hrr⟩ : ∃ r, i % 64 = r := ⟨_, rfl⟩
  have hik : i = 64 * k + r := by omega
  have HIK := Lib.hid hik
  have hr64 : r < 64 := by omega
  have hkb : k ≤ 1000 := by omega
  have HWI : Hid (∀ wx, Calls Tryd.prog 18 #[.int .u64 (i : Int)] wx fun e w' => e = .returned (.int .u64 (r : Int)) ∧ w' = wx) := Lib.hid (fun wx => by
    have := wordsIndex i (by omega) wx
    rwa [hrr] at this)
  have hC0 : ¬ C = 0 := by omega
  clear h hr hT hcs hfr hown hk hrr hik f0 f1 c0
  unfold O.ptr
  go_enter Tryd.func12, Tryd.ntmps12
  by_cases hkm : k < o.m
  · have hkm' : (k : Int) < (o.m : Int) := by omega
    have hkm2 : ¬ o.m ≤ k := by omega
    have hC3 : ((C : Int) == 0) = false := by rw [beq_eq_false_iff_ne]; omega
    have x0 := HCS.out k hkm
    have HW0 := Lib.hid (ShW.start HSall.out k r)
    have hd : ((o.ws.getD k 0 : Nat) : Int) / 2 ^ r = ((o.ws.getD k 0 / 2 ^ r : Nat) : Int) := by rw [Int.natCast_ediv, Int.natCast_pow]; rfl
    generalize o.ws.getD k 0 / 2 ^ r = y0 at *
    generalize o.ws.getD k 0 = x at *
    go_wp2_with fail
    go_quiet ((go_at_call 18; exact Calls.quiet_of_same (HWI.out _)))
    obtain ⟨wq, hwq⟩ : ∃ wq, wq = w.drewN nq := ⟨_, rfl⟩
    rw [← hwq]
    have HQ : Hid (Only (fun j => j = g) w wq ∧ Rw g C (Fr b i (i + 0)) wq) := Lib.hid (by rw [hwq, Nat.add_zero, Fr.start]; exact ⟨(Only.refl _ w).drewN _, HOWN.out.keep rfl⟩)
    have HL0 : Hid ((Fr b i (i + 0)).length = 0) := Lib.hid (by rw [Nat.add_zero, Fr.start]; rfl)
    clear hwq x0 HOWN
    try simp only [hd]
    have HC1 := Lib.hid c1
    clear hd c1
    go_wp2_with fail
    go_loopw [11, 12] (fun v s wr => ∃ (p y n : Nat), r + p ≤ 64 ∧ v = .int .u64 (y : Int) ∧ s = .int .i64 (n : Int) ∧ n < C ∧ Hid (ShW o.ws k r p y) ∧ Hid ((Fr b i (i + p)).length = n ∧ Only (fun j => j = g) w wr ∧ Rw g C (Fr b i (i + p)) wr)) (fun v _ _ => (intOf v).toNat)
    case atStart => exact ⟨0, y0, 0, by omega, rfl, rfl, by omega, Lib.hid HW0.out, Lib.hid ⟨HL0.out, HQ.out⟩⟩
    case round =>
      obtain ⟨p, y, n, hp64, rfl, rfl, hnC, HX, hrel⟩ := hrel
      clear HQ HL0 HW0
      by_cases hx0 : y = 0
      · subst hx0
        rw [show ((0 : Nat) : Int) = 0 from rfl]
        have HF : Hid (Fr b i (64 * (k + 1)) = Fr b i (i + p)) := Lib.hid (HX.out.fin HR.out HIK.out hr64 hp64)
        have HB1 : Hid ((Fr b i (64 * (k + 1))).length = n ∧ Only (fun j => j = g) w wr ∧ Rw g C (Fr b i (64 * (k + 1))) wr) := Lib.hid (by rw [HF.out]; exact hrel.out)
        have d1 : wr.cell? ⟨o.p, 1, none⟩ = some (.slice (some ⟨bb, 0, none⟩) o.m o.cap) := (hrel.out.2.1.cell (p := ⟨o.p, 1, none⟩) hp hpB).trans HC1.out
        have hk1 : (k : Int) + 1 ≤ (o.m : Int) := by omega
        have hk2 : (k : Int) + 1 ≤ (o.cap : Int) := by omega
        clear HX HF hrel
        by_cases hcc : o.cap = k + 1
        · have hmk : o.m - (k + 1) = 0 := by omega
          have hmk2 : ((o.m : Int) - ((k : Int) + 1)).toNat = 0 := by omega
          go_wp2_with fail
          clear d1
          go_loopw [12, 13, 14, 82] (fun s _ _ iv wr => ∃ (q n : Nat), q ≤ 0 ∧ iv = .int .i64 (q : Int) ∧ s = .int .i64 (n : Int) ∧ n < C ∧ Hid ((Fr b i (64 * (k + 1 + q))).length = n ∧ Only (fun j => j = g) w wr ∧ Rw g C (Fr b i (64 * (k + 1 + q))) wr)) (fun _ _ _ iv _ => 0 - (intOf iv).toNat)
          case atStart => exact ⟨0, n, Nat.zero_le _, rfl, rfl, hnC, Lib.hid HB1.out⟩
          case round =>
            obtain ⟨q, n, hq, rfl, rfl, hnC, hrel⟩ := hrel
            clear HB1
            by_cases hql : q < 0
            · omega
            · have hql' : ¬ (q : Int) < ((0 : Nat) : Int) := by omega
              have HALL : Hid (Many b i C = Fr b i (64 * (k + 1 + q))) := Lib.hid (Many.all (by have := HROOM.out; omega) (by have := hrel.out.1; omega))
              have HRU := Lib.hid (hrel.out.2.2.ru hrel.out.1)
              have HAB := Lib.hid hrel.out.2.1
              by_cases hn0 : n = 0
              · subst hn0
                clear hrel
                obtain rfl : q = 0 := by omega
                go_wp2_with fail
                go_quiet (fail)
                go_wp2_with fail
                go_ret2
                exact ⟨0, 0, rfl, by rw [HALL.out]; exact HRU.out.of_heap rfl, HAB.out.drewN _⟩
              · have hn1 : (0 : Int) < (n : Int) := by omega
                have z1 := hrel.out.2.2.cell (n - 1) (by omega)
                have z2 : ((n : Int) - 1).toNat = n - 1 := by omega
                have z3 : (0 : Int) ≤ (n : Int) - 1 := by omega
                have z4 : (n : Int) - 1 < (C : Int) := by omega
                have z5 : IntKind.i64.wrap ((n : Int) - 1) = (n : Int) - 1 := by rw [IntKind.wrap_i64]; omega
                have z6 : (1 : Int) ≤ (n : Int) := by omega
                have z7 : 1 ≤ n := by omega
                have z8 : (n : Int) ≤ (C : Int) := by omega
                generalize (Fr b i (64 * (k + 1 + q)) ++ List.replicate (C - (Fr b i (64 * (k + 1 + q))).length) 0).getD (n - 1) 0 = old at z1
                clear hrel
                obtain rfl : q = 0 := by omega
                go_wp2_with fail
                go_quiet (fail)
                go_wp2_with fail
                go_ret2
                exact ⟨_, n, rfl, by rw [HALL.out]; exact HRU.out.of_heap rfl, HAB.out.drewN _⟩

        · have hmk2 : ((o.m : Int) - ((k : Int) + 1)).toNat = o.m - (k + 1) := by omega
          go_wp2_with fail
          clear d1
          go_loopw [12, 13, 14, 82] (fun s _ _ iv wr => ∃ (q n : Nat), q ≤ o.m - (k + 1) ∧ iv = .int .i64 (q : Int) ∧ s = .int .i64 (n : Int) ∧ n < C ∧ Hid ((Fr b i (64 * (k + 1 + q))).length = n ∧ Only (fun j => j = g) w wr ∧ Rw g C (Fr b i (64 * (k + 1 + q))) wr)) (fun _ _ _ iv _ => o.m - (k + 1) - (intOf iv).toNat)
          case atStart => exact ⟨0, n, Nat.zero_le _, rfl, rfl, hnC, Lib.hid HB1.out⟩
          case round =>
            obtain ⟨q, n, hq, rfl, rfl, hnC, hrel⟩ := hrel
            clear HB1
            by_cases hql : q < o.m - (k + 1)
            · have hql' : (q : Int) < ((o.m - (k + 1) : Nat) : Int) := by omega
              obtain ⟨kk, hkk⟩ : ∃ kk, kk = k + 1 + q := ⟨_, rfl⟩
              have x0 : wr.cell? ⟨bb, k + 1 + q, none⟩ = some (.int .u64 (o.ws.getD kk 0 : Nat)) := by rw [← hkk]; exact (hrel.out.2.1.cell (p := ⟨bb, kk, none⟩) hbl hbbB).trans (HCS.out kk (by omega))
              have HW0 := Lib.hid (LeftW.start HSall.out kk)
              generalize o.ws.getD kk 0 = y0 at x0 HW0
              have HB1 : Hid ((Fr b i (64 * kk + 0)).length = n ∧ Only (fun j => j = g) w wr ∧ Rw g C (Fr b i (64 * kk + 0)) wr) := Lib.hid (by rw [Nat.add_zero, hkk]; exact hrel.out)
              clear hrel
              go_wp2_with fail
              clear x0
              go_loopw [12, 14] (fun s v wr => ∃ (p y n : Nat), p ≤ 64 ∧ v = .int .u64 (y : Int) ∧ s = .int .i64 (n : Int) ∧ n < C ∧ Hid (LeftW o.ws kk p y) ∧ Hid ((Fr b i (64 * kk + p)).length = n ∧ Only (fun j => j = g) w wr ∧ Rw g C (Fr b i (64 * kk + p)) wr)) (fun _ v _ => (intOf v).toNat)
              case atStart => exact ⟨0, y0, n, by omega, rfl, rfl, hnC, Lib.hid HW0.out, Lib.hid HB1.out⟩
              case round =>
                obtain ⟨p, y, n, hp64, rfl, rfl, hnC, HX, hrel⟩ := hrel
                clear HB1 HW0
                by_cases hx0 : y = 0
                · subst hx0
                  have HF : Hid (Fr b i (64 * (k + 1 + (q + 1))) = Fr b i (64 * kk + p)) := Lib.hid (by rw [← Fr.gap (HX.out.fin HR.out), hkk]; rfl)
                  go_wp2_with fail
                  go_roundw
                  case rel => exact ⟨q + 1, n, by omega, by go_num, by go_num, hnC, Lib.hid (by rw [HF.out]; exact hrel.out)⟩
                  case measure => simp [intOf]; omega
                ·
                  have hxb : ((y : Int) != 0) = true := by rw [bne_iff_ne]; omega
                  have hxb2 : (!((y : Int) == 0)) = true := by simp; omega
                  obtain ⟨t, ht, hlow⟩ := low_ex HX.out.1 hx0
                  have HTZ : Hid (∀ wx, wx.heap = wr.heap → Calls Tryd.prog 19 #[.int .u64 (y : Int)] wx fun e w' => e = .returned (.int .i64 (t : Int)) ∧ wx = w') := Lib.hid (fun wx hx => tz64 y t wx HX.out.1 (by omega) hlow ht (fun j hj => by
                    have := (HT.out.keep hw0 hrel.out.2.1 hg1) j hj
                    rw [← this]; unfold World.cell?; rw [hx]))
                  obtain ⟨hpt, hon0, hleft⟩ := HX.out.step HR.out hlow ht
                  have hon := HX.out.many (i := i) HR.out hlow ht (by have := HIK.out; omega)
                  clear hon0
                  have HLF := Lib.hid hleft
                  have hpa := pred_and HX.out.1 (by omega)
                  have hdec : y &&& (y - 1) < y := Nat.lt_of_le_of_lt Nat.and_le_right (by omega)
                  have HLT := Lib.hid HX.out.1
                  have y1 := hrel.out.2.2.cell n (by omega)
                  have y2 := hrel.out.2.2.free n
                  have hnC' : (n : Int) < (C : Int) := by omega

                  have hln : (Fr b i (64 * kk + (t + 1))).length = n + 1 := by rw [hon, List.length_append, hrel.out.1]; rfl
                  have hRW : Rw g C (Fr b i (64 * kk + (t + 1))) (wr.setCell ⟨g, n, none⟩ (.int .u64 (((k : Int) + 1 + (q : Int)) * 64 + (t : Int)))) := by
                    have h1 := hrel.out.2.2.store hrel.out.1 (by omega) (64 * kk + t)
                    rw [hon, show (((k : Int) + 1 + (q : Int)) * 64 + (t : Int)) = ((64 * kk + t : Nat) : Int) by omega]
                    exact h1
                  have HSTO : Hid (Only (fun j => j = g) w (wr.setCell ⟨g, n, none⟩ (.int .u64 (((k : Int) + 1 + (q : Int)) * 64 + (t : Int)))) ∧ Rw g C (Fr b i (64 * kk + (t + 1))) (wr.setCell ⟨g, n, none⟩ (.int .u64 (((k : Int) + 1 + (q : Int)) * 64 + (t : Int))))) := Lib.hid ⟨hrel.out.2.1.setCell _ _ (fun _ => rfl), hRW⟩
                  have HLN := Lib.hid hln
                  clear hlow hon hleft HX hln hRW
                  generalize y &&& (y - 1) = y' at *
                  generalize (Fr b i (64 * kk + p) ++ List.replicate (C - (Fr b i (64 * kk + p)).length) 0).getD n 0 = old at y1
                  by_cases hfull : n + 1 = C
                  · have hfull' : (n : Int) + 1 = (C : Int) := by omega
                    have hfull2 : ((n : Int) + 1 == (C : Int)) = true := by rw [beq_iff_eq]; exact hfull'
                    have HMY : Hid (RU (wr.setCell ⟨g, n, none⟩ (.int .u64 (((k : Int) + 1 + (q : Int)) * 64 + (t : Int)))) (some ⟨g, 0, none⟩) C C (Many b i C)) := Lib.hid (by
                      rw [Many.full (c := 64 * kk + (t + 1)) (by rw [HLN.out, hfull])]
                      exact HSTO.out.2.ru (by rw [HLN.out, hfull]))
                    have g1 : (C : Int) - 1 = (n : Int) := by omega
                    have g2 : IntKind.i64.wrap ((C : Int) - 1) = (n : Int) := by rw [IntKind.wrap_i64]; omega
                    have hC63 : (C : Int) ≤ 1000 := by omega
                    have HAB : Hid (Only (fun j => j = g) w (wr.setCell ⟨g, n, none⟩ (.int .u64 (((k : Int) + 1 + (q : Int)) * 64 + (t : Int))))) := Lib.hid HSTO.out.1
                    clear HSTO HLN hdec hpa
                    go_wp2_with (go_at_call 19; refine (HTZ.out _ (by exact rfl)).mono ?_; rintro e w' ⟨rfl, rfl⟩)
                    go_quiet (fail)
                    go_wp2_with fail
                    go_ret2
                    exact ⟨_, C, rfl, HMY.out.of_heap rfl, HAB.out.drewN _⟩
                  · have hfull' : ¬ (n : Int) + 1 = (C : Int) := by omega
                    have hfull2 : ((n : Int) + 1 == (C : Int)) = false := by rw [beq_eq_false_iff_ne]; exact hfull'
                    go_wp2_with (go_at_call 19; refine (HTZ.out _ (by exact rfl)).mono ?_; rintro e w' ⟨rfl, rfl⟩)
                    go_roundw
                    case rel => exact ⟨t + 1, y', n + 1, by omega, by go_num, by go_num, by omega, Lib.hid HLF.out, Lib.hid ⟨HLN.out, HSTO.out⟩⟩
                    case measure => simp [intOf]; omega
            · have hql' : ¬ (q : Int) < ((o.m - (k + 1) : Nat) : Int) := by omega
              have HALL : Hid (Many b i C = Fr b i (64 * (k + 1 + q))) := Lib.hid (Many.all (by have := HROOM.out; omega) (by have := hrel.out.1; omega))
              have HRU := Lib.hid (hrel.out.2.2.ru hrel.out.1)
              have HAB := Lib.hid hrel.out.2.1
              by_cases hn0 : n = 0
              · subst hn0
                clear hrel
      
                go_wp2_with fail
                go_quiet (fail)
                go_wp2_with fail
                go_ret2
                exact ⟨0, 0, rfl, by rw [HALL.out]; exact HRU.out.of_heap rfl, HAB.out.drewN _⟩
              · have hn1 : (0 : Int) < (n : Int) := by omega
                have z1 := hrel.out.2.2.cell (n - 1) (by omega)
                have z2 : ((n : Int) - 1).toNat = n - 1 := by omega
                have z3 : (0 : Int) ≤ (n : Int) - 1 := by omega
                have z4 : (n : Int) - 1 < (C : Int) := by omega
                have z5 : IntKind.i64.wrap ((n : Int) - 1) = (n : Int) - 1 := by rw [IntKind.wrap_i64]; omega
                have z6 : (1 : Int) ≤ (n : Int) := by omega
                have z7 : 1 ≤ n := by omega
                have z8 : (n : Int) ≤ (C : Int) := by omega
                generalize (Fr b i (64 * (k + 1 + q)) ++ List.replicate (C - (Fr b i (64 * (k + 1 + q))).length) 0).getD (n - 1) 0 = old at z1
                clear hrel
      
                go_wp2_with fail
                go_quiet (fail)
                go_wp2_with fail
                go_ret2
                exact ⟨_, n, rfl, by rw [HALL.out]; exact HRU.out.of_heap rfl, HAB.out.drewN _⟩

      ·
        have hxb : ((y : Int) != 0) = true := by rw [bne_iff_ne]; omega
        have hxb2 : (!((y : Int) == 0)) = true := by simp; omega
        obtain ⟨t, ht, hlow⟩ := low_ex HX.out.1 hx0
        have HTZ : Hid (∀ wx, wx.heap = wr.heap → Calls Tryd.prog 19 #[.int .u64 (y : Int)] wx fun e w' => e = .returned (.int .i64 (t : Int)) ∧ wx = w') := Lib.hid (fun wx hx => tz64 y t wx HX.out.1 (by omega) hlow ht (fun j hj => by
          have := (HT.out.keep hw0 hrel.out.2.1 hg1) j hj
          rw [← this]; unfold World.cell?; rw [hx]))
        obtain ⟨hpt, hrt, hon, hleft⟩ := HX.out.step HSall.out HR.out HIK.out hlow ht
        have HLF := Lib.hid hleft
        have hpa := pred_and HX.out.1 (by omega)
        have hdec : y &&& (y - 1) < y := Nat.lt_of_le_of_lt Nat.and_le_right (by omega)
        have HLT := Lib.hid HX.out.1
        have y1 := hrel.out.2.2.cell n (by omega)
        have y2 := hrel.out.2.2.free n
        have hnC' : (n : Int) < (C : Int) := by omega

        have hln : (Fr b i (i + (t + 1))).length = n + 1 := by rw [hon, List.length_append, hrel.out.1]; rfl
        have hRW : Rw g C (Fr b i (i + (t + 1))) (wr.setCell ⟨g, n, none⟩ (.int .u64 ((i : Int) + (t : Int)))) := by
          have h1 := hrel.out.2.2.store hrel.out.1 (by omega) (i + t)
          rw [hon, show ((i : Int) + (t : Int)) = ((i + t : Nat) : Int) by omega]
          exact h1
        have HSTO : Hid (Only (fun j => j = g) w (wr.setCell ⟨g, n, none⟩ (.int .u64 ((i : Int) + (t : Int)))) ∧ Rw g C (Fr b i (i + (t + 1))) (wr.setCell ⟨g, n, none⟩ (.int .u64 ((i : Int) + (t : Int))))) := Lib.hid ⟨hrel.out.2.1.setCell _ _ (fun _ => rfl), hRW⟩
        have HLN := Lib.hid hln
        clear hlow hon hleft HX hln hRW
        generalize y &&& (y - 1) = y' at *
        generalize (Fr b i (i + p) ++ List.replicate (C - (Fr b i (i + p)).length) 0).getD n 0 = old at y1
        by_cases hfull : n + 1 = C
        · have hfull' : (n : Int) + 1 = (C : Int) := by omega
          have hfull2 : ((n : Int) + 1 == (C : Int)) = true := by rw [beq_iff_eq]; exact hfull'
          have HMY : Hid (RU (wr.setCell ⟨g, n, none⟩ (.int .u64 ((i : Int) + (t : Int)))) (some ⟨g, 0, none⟩) C C (Many b i C)) := Lib.hid (by
            rw [Many.full (c := i + (t + 1)) (by rw [HLN.out, hfull])]
            exact HSTO.out.2.ru (by rw [HLN.out, hfull]))
          have g1 : (C : Int) - 1 = (n : Int) := by omega
          have g2 : IntKind.i64.wrap ((C : Int) - 1) = (n : Int) := by rw [IntKind.wrap_i64]; omega
          have hC63 : (C : Int) ≤ 1000 := by omega
          have HAB : Hid (Only (fun j => j = g) w (wr.setCell ⟨g, n, none⟩ (.int .u64 ((i : Int) + (t : Int))))) := Lib.hid HSTO.out.1
          clear HSTO HLN hdec hpa
          go_wp2_with (go_at_call 19; refine (HTZ.out _ (by exact rfl)).mono ?_; rintro e w' ⟨rfl, rfl⟩)
          go_quiet (fail)
          go_wp2_with fail
          go_ret2
          exact ⟨_, C, rfl, HMY.out.of_heap rfl, HAB.out.drewN _⟩
        · have hfull' : ¬ (n : Int) + 1 = (C : Int) := by omega
          have hfull2 : ((n : Int) + 1 == (C : Int)) = false := by rw [beq_eq_false_iff_ne]; exact hfull'
          go_wp2_with (go_at_call 19; refine (HTZ.out _ (by exact rfl)).mono ?_; rintro e w' ⟨rfl, rfl⟩)
          go_roundw
          case rel => exact ⟨t + 1, y', n + 1, by omega, by go_num, by go_num, by omega, Lib.hid HLF.out, Lib.hid ⟨HLN.out, HSTO.out⟩⟩
          case measure => simp [intOf]; omega
  · have hkm' : ¬ (k : Int) < (o.m : Int) := by omega
    have hkm2 : o.m ≤ k := by omega
    have HFAR : Hid (Many b i C = []) := Lib.hid (Many.far (by have := HROOM.out; have := HIK.out; omega))
    go_wp2_with fail
    go_quiet (fail)
    go_wp2_with fail
    go_ret2
    exact ⟨0, 0, rfl, by rw [HFAR.out]; exact (HOWN.out.ru rfl).of_heap rfl, (Only.refl _ w).drewN _⟩
end Go.Proofs.YtmadpemagfbmlaaDoor.bs

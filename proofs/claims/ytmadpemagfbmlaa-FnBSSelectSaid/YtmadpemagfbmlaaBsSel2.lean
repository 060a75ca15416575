/-
  Bitsets: Select and Rank; the thin package's functions of them.
-/
import Derived.Test.YtmadpemagfbmlaaBsSel
import Derived.Test.YtmadpemagfbmlaaBsLaw
import Derived.Test.YtmadpemagfbmlaaBsSet64
import Derived.Test.YtmadpemagfbmlaaBsOps2
namespace Go.Proofs.Ytmadpemagfbmlaa.bs
open Go.RowKit Go.Proofs.Ytmadpemagfbmlaa.base Go.Proofs.Ytmadpemagfbmlaa.heap Go.Proofs.Ytmadpemagfbmlaa.bit Go.Proofs.Ytmadpemagfbmlaa.pop64
set_option linter.unusedVariables false

/-- the place of the j-th set bit, or the length -/
def SelR (b : List Bool) (j R : Nat) : Prop := (j < (ones b).length ∧ R = (ones b).getD j 0 ∧ (onesTo b (R + 1)).length = j + 1) ∨ ((ones b).length ≤ j ∧ R = b.length)
theorem sel_at {o : O} {b : List Bool} {j k l p : Nat} (hr : o.rep b) (hl : countW o.ws (64 * k) + l = j) (hp : p < 64) (hN : Nth (o.ws.getD k 0) l p) : SelR b j (64 * k + p) := by
  obtain ⟨h1, h2⟩ := hN.words hp
  rw [hr.bits] at h1
  have h3 : (onesTo b (64 * k + p)).length = j := by rw [← countW_ones hr.bits, h2, hl]
  have h4 := ones_nth h1
  rw [h3] at h4
  have hlt : 64 * k + p < b.length := by
    refine Classical.byContradiction fun hge => ?_
    simp [show b.length ≤ 64 * k + p by omega] at h1
  obtain ⟨r, hr⟩ := onesTo_pre b (i := 64 * k + p + 1) (k := b.length) hlt
  refine .inl ⟨?_, h4.symm, by rw [onesTo_yes b _ h1, List.length_append, h3]; rfl⟩
  unfold ones
  rw [hr, onesTo_yes b _ h1, List.length_append, List.length_append, h3]
  simp
  omega
theorem sel_end {o : O} {b : List Bool} {j l : Nat} (hr : o.rep b) (hl : countW o.ws (64 * o.m) + l = j) : SelR b j b.length := by
  have := countW_all hr.bits hr.room
  exact .inr ⟨by omega, rfl⟩

set_option maxRecDepth 100000 in
set_option maxHeartbeats 3200000 in
theorem select (o : O) (b : List Bool) (j : Nat) (w : World) (h : o.ok w) (hr : o.rep b) (hm : o.m ≤ 20000) (hj : j ≤ 1048576) :
    Calls Try.prog 23 #[o.ptr, .int .u64 (j : Int)] w fun e w' => (∃ R : Nat, R ≤ 20000000 ∧ SelR b j R ∧ e = .returned (.int .u64 (R : Int))) ∧ w = w' := by
  obtain ⟨bb, hbb, hp, hbl, hne, c0, c1, f0, f1, hcs, hfr, hbd1, hbd2⟩ := h.facts
  have HR := Lib.hid hr
  have HCS := Lib.hid hcs
  have HF : Hid (∀ i, Lt64 (o.ws.getD i 0)) := Lib.hid (fun i => h.fits.at i)
  have HON : Hid (o.n = b.length) := Lib.hid hr.len
  have hnb : o.n ≤ 1280000 := by have := hr.len; have := hr.room; omega
  have HC : Hid (∀ x, Lt64 x → ∀ wx, Calls Try.prog 51 #[.int .u64 (x : Int)] wx fun e w' => e = .returned (.int .i64 (cnt 64 x : Int)) ∧ wx = w') := Lib.hid (fun x hx wx => (onesCount x hx wx).mono fun e w' ⟨he, hw⟩ => ⟨he, hw.symm⟩)
  clear h hr hcs hfr
  unfold O.ptr
  go_enter Try.func23, Try.ntmps23
  go_wp2_with fail
  go_loop [5, 6, 7, 8, 15] (fun a _ _ _ i => ∃ k l : Nat, k ≤ o.m ∧ a = .int .u64 (l : Int) ∧ i = .int .i64 (k : Int) ∧ Hid (countW o.ws (64 * k) + l = j)) (fun _ _ _ _ i => o.m - (intOf i).toNat)
  case atStart => exact ⟨0, j, Nat.zero_le _, rfl, rfl, Lib.hid (by rw [Nat.mul_zero, countW_zero, Nat.zero_add])⟩
  case round =>
    obtain ⟨k, l, hk, rfl, rfl, HL⟩ := hrel
    have hlj : l ≤ 1048576 := by have := HL.out; omega
    by_cases hkm : k < o.m
    · have hkm' : (k : Int) < (o.m : Int) := by omega
      have x0 := HCS.out k hkm
      have hxl := HF.out k
      have q1 := Lib.hid (HC.out _ hxl)
      have HN := Lib.hid (countW_next o.ws k)
      have HS : Hid (l < cnt 64 (o.ws.getD k 0) → ∀ wx, Calls Try.prog 52 #[.int .u64 (o.ws.getD k 0 : Nat), .int .u64 (l : Int)] wx fun e w' => (∃ p, p < 64 ∧ Hid (SelR b j (64 * k + p)) ∧ e = .returned (.int .u64 (p : Int))) ∧ wx = w') := Lib.hid (fun hc wx =>
        (select64 _ l wx hxl hc).mono fun e w' ⟨⟨p, hp, hN, he⟩, hw⟩ => ⟨⟨p, hp, Lib.hid (sel_at HR.out HL.out hp hN), he⟩, hw⟩)
      have hcb := cnt_le 64 (o.ws.getD k 0)
      clear hxl
      generalize cnt 64 (o.ws.getD k 0) = c at *
      generalize o.ws.getD k 0 = x at *
      by_cases hc : l < c
      · have hc' : (l : Int) < (c : Int) := by omega
        have HS2 := Lib.hid (HS.out hc)
        clear HS
        go_wp2_with (first | (go_at_call 51; (with_reducible refine (q1.out _).mono ?_); rintro e w1 ⟨rfl, rfl⟩) | (go_at_call 52; (with_reducible refine (HS2.out _).mono ?_); rintro e w1 ⟨⟨p, hp, HP, rfl⟩, rfl⟩))
        go_ret
        exact ⟨⟨64 * k + p, by omega, HP.out, by go_num⟩, rfl⟩
      · have hc' : ¬ (l : Int) < (c : Int) := by omega
        have hw1 : IntKind.u64.wrap ((l : Int) - (c : Int)) = ((l - c : Nat) : Int) := by rw [IntKind.wrap_u64]; omega
        clear HS
        go_wp2_with (go_at_call 51; (with_reducible refine (q1.out _).mono ?_); rintro e w1 ⟨rfl, rfl⟩)
        go_round
        case rel => exact ⟨k + 1, l - c, by omega, by go_num, by go_num, Lib.hid (by have h1 := HL.out; have h2 := HN.out; omega)⟩
        case measure => simp [intOf]; omega
    · obtain rfl : k = o.m := by omega
      have HE := Lib.hid (sel_end HR.out HL.out)
      go_wp2_with fail
      go_ret
      exact ⟨⟨o.n, by omega, by rw [HON.out]; exact HE.out, rfl⟩, rfl⟩

theorem rank_eq {x r : Nat} (hx : Lt64 x) (hr : r < 64) : cnt 64 (x * 2 ^ (63 - r) % 18446744073709551616) = cnt (r + 1) x := by
  have h1 : x * 2 ^ (63 - r) % 18446744073709551616 = 2 ^ (63 - r) * (x % 2 ^ (r + 1)) := by
    have e : (18446744073709551616 : Nat) = 2 ^ (63 - r) * 2 ^ (r + 1) := by rw [← Nat.pow_add, show 63 - r + (r + 1) = 64 by omega]
    rw [e, Nat.mul_comm x, Nat.mul_mod_mul_left]
  have h2 : cnt (63 - r) (2 ^ (63 - r) * (x % 2 ^ (r + 1))) = 0 := by
    have := cnt_mod (f := 63 - r) (k := 63 - r) (2 ^ (63 - r) * (x % 2 ^ (r + 1))) (Nat.le_refl _)
    rw [Nat.mul_mod_right, cnt_zero] at this
    exact this.symm
  rw [h1]
  have h3 := cnt_split (63 - r) (r + 1) (2 ^ (63 - r) * (x % 2 ^ (r + 1)))
  rw [show 63 - r + (r + 1) = 64 by omega, h2, Nat.mul_div_cancel_left _ (Nat.two_pow_pos _), cnt_mod _ (Nat.le_refl _)] at h3
  omega
theorem shl_nat (x k : Nat) : IntKind.u64.wrap ((x : Int) * 2 ^ k) = ((x * 2 ^ k % 18446744073709551616 : Nat) : Int) := by
  rw [IntKind.wrap_u64, Int.natCast_emod, Int.natCast_mul, Int.natCast_pow]; rfl

set_option maxRecDepth 100000 in
set_option maxHeartbeats 3200000 in
theorem rank (o : O) (b : List Bool) (i : Nat) (w : World) (h : o.ok w) (hr : o.rep b) (hm : o.m ≤ 20000) (hi : i ≤ 20000000) :
    Calls Try.prog 24 #[o.ptr, .int .u64 (i : Int)] w fun e w' => e = .returned (.int .u64 ((onesTo b (i + 1)).length : Int)) ∧ w = w' := by
  obtain ⟨bb, hbb, hp, hbl, hne, c0, c1, f0, f1, hcs, hfr, hbd1, hbd2⟩ := h.facts
  have HR := Lib.hid hr
  have HCS := Lib.hid hcs
  have HF : Hid (∀ i, Lt64 (o.ws.getD i 0)) := Lib.hid (fun i => h.fits.at i)
  have HC : Hid (∀ x, Lt64 x → ∀ wx, Calls Try.prog 51 #[.int .u64 (x : Int)] wx fun e w' => e = .returned (.int .i64 (cnt 64 x : Int)) ∧ wx = w') := Lib.hid (fun x hx wx => (onesCount x hx wx).mono fun e w' ⟨he, hw⟩ => ⟨he, hw.symm⟩)
  obtain ⟨q, hq⟩ : ∃ q, i / 64 = q := ⟨_, rfl⟩
  have hq' : (i : Int) / 64 = (q : Int) := by omega
  have hqb : q ≤ 1000000 := by omega
  have mr : bits .and .u64 (i : Int) 63 = ((i % 64 : Nat) : Int) := mask63 (by unfold Lt64; omega)
  have HQ : Hid (64 * q + i % 64 = i ∧ i % 64 < 64) := Lib.hid (by omega)
  have hrb : i % 64 < 64 := HQ.out.2
  generalize i % 64 = r at *
  -- the sum of the whole words ahead of t
  obtain ⟨t, ht⟩ : ∃ t, min q o.m = t := ⟨_, rfl⟩
  have htm : t ≤ o.m := by omega
  have HT : Hid ((if o.m < q then o.m else q) = t) := Lib.hid (by split <;> omega)
  have HEND : Hid (if q < o.m then t = q ∧ (onesTo b (i + 1)).length = countW o.ws (64 * t) + cnt 64 (o.ws.getD q 0 * 2 ^ (63 - r) % 18446744073709551616) else t = o.m ∧ (onesTo b (i + 1)).length = countW o.ws (64 * t)) := Lib.hid (by
    have hi2 := HQ.out
    by_cases hqm : q < o.m
    · rw [if_pos hqm]
      refine ⟨by omega, ?_⟩
      rw [rank_eq (HF.out q) hrb, ← countW_ones HR.out.bits, ← show t = q by omega, ← countW_word _ _ _ (by omega), show 64 * t + (r + 1) = i + 1 by omega]
    · rw [if_neg hqm]
      have hroom := HR.out.room
      refine ⟨by omega, ?_⟩
      rw [← countW_ones HR.out.bits, countW_all HR.out.bits (by omega), countW_all HR.out.bits (by omega)])
  clear h hr hcs hfr hq ht
  unfold O.ptr
  go_enter Try.func24, Try.ntmps24
  go_upto_if 19 with fail
  go_cut [6] from 17 (fun a wx => a = .int .i64 (t : Int) ∧ wx = w)
  case first =>
    by_cases hqm : o.m < q
    · have hqm' : (o.m : Int) < (q : Int) := by omega
      have := HT.out
      rw [if_pos hqm] at this
      subst this
      go_wp2_with fail
      go_meet
      case rel => exact ⟨rfl, rfl⟩
    · have hqm' : ¬ (o.m : Int) < (q : Int) := by omega
      have := HT.out
      rw [if_neg hqm] at this
      subst this
      go_wp2_with fail
      go_meet
      case rel => exact ⟨rfl, rfl⟩
  case rest =>
    obtain ⟨rfl, rfl⟩ := hcut
    go_wp2_with fail
    go_loop [4, 7, 8] (fun a i _ => ∃ k : Nat, k ≤ t ∧ a = .int .u64 (countW o.ws (64 * k) : Int) ∧ i = .int .i64 (k : Int)) (fun _ i _ => t - (intOf i).toNat)
    case atStart => exact ⟨0, Nat.zero_le _, by rw [Nat.mul_zero, countW_zero]; rfl, rfl⟩
    case round =>
      obtain ⟨k, hk, rfl, rfl⟩ := hrel
      have hcw := countW_le o.ws (64 * k)
      by_cases hkt : k < t
      · have hkt' : (k : Int) < (t : Int) := by omega
        have hkm : (k : Int) < (o.m : Int) := by omega
        have x0 := HCS.out k (by omega)
        have q1 := Lib.hid (HC.out _ (HF.out k))
        have HN := Lib.hid (countW_next o.ws k)
        have hcb := cnt_le 64 (o.ws.getD k 0)
        have HZ : Hid (o.ws.getD k 0 = 0 → cnt 64 (o.ws.getD k 0) = 0) := Lib.hid (fun e => by rw [e, cnt_zero])
        generalize cnt 64 (o.ws.getD k 0) = c at *
        generalize o.ws.getD k 0 = x at *
        generalize countW o.ws (64 * k) = s at *
        by_cases hx : x = 0
        · subst hx
          go_wp2_with fail
          go_round
          case rel => exact ⟨k + 1, by omega, by rw [HN.out, HZ.out rfl]; rfl, by go_num⟩
          case measure => simp [intOf]; omega
        · have hxb : ((x : Int) != 0) = true := by rw [bne_iff_ne]; omega
          have hxb2 : (!((x : Int) == 0)) = true := by simp; omega
          go_wp2_with (go_at_call 51; (with_reducible refine (q1.out _).mono ?_); rintro e w1 ⟨rfl, rfl⟩)
          go_round
          case rel => exact ⟨k + 1, by omega, by rw [HN.out]; go_num, by go_num⟩
          case measure => simp [intOf]; omega
      · obtain rfl : k = t := by omega
        have hnlt : ¬ (k : Int) < (k : Int) := by omega
        have he := HEND.out
        by_cases hqm : q < o.m
        · rw [if_pos hqm] at he
          obtain ⟨h1, h2⟩ := he
          have HE := Lib.hid h2
          clear h2
          subst h1
          have hkm : (k : Int) < (o.m : Int) := by omega
          have x0 := HCS.out k hqm
          have hsh := shl_nat (o.ws.getD k 0) (63 - r)
          have hlt : Lt64 (o.ws.getD k 0 * 2 ^ (63 - r) % 18446744073709551616) := by unfold Lt64; exact Nat.mod_lt _ (by omega)
          have q1 := Lib.hid (HC.out _ hlt)
          have hcb := cnt_le 64 (o.ws.getD k 0 * 2 ^ (63 - r) % 18446744073709551616)
          have hs1 : IntKind.u64.wrap (63 - (r : Int)) = 63 - (r : Int) := by rw [IntKind.wrap_u64]; omega
          have hs2 : (63 - (r : Int)).toNat = 63 - r := by omega
          have hs3 : (0 : Int) ≤ 63 - (r : Int) := by omega
          clear hlt
          generalize cnt 64 (o.ws.getD k 0 * 2 ^ (63 - r) % 18446744073709551616) = c at *
          generalize o.ws.getD k 0 * 2 ^ (63 - r) % 18446744073709551616 = y at *
          generalize o.ws.getD k 0 = x at *
          generalize countW o.ws (64 * k) = s at *
          go_wp2_with (go_at_call 51; (with_reducible refine (q1.out _).mono ?_); rintro e w1 ⟨rfl, rfl⟩)
          go_ret
          exact ⟨by rw [HE.out]; go_num, rfl⟩
        · rw [if_neg hqm] at he
          obtain ⟨h1, h2⟩ := he
          have HE := Lib.hid h2
          clear h2
          subst h1
          go_wp2_with fail
          go_ret
          exact ⟨by rw [HE.out]; rfl, rfl⟩

set_option maxRecDepth 100000 in
set_option maxHeartbeats 800000 in
theorem implSelect (v : Value) (b : List Bool) (i : Nat) (w : World) (h : BV w v b) (hn : b.length ≤ 1048000) (hi : i ≤ 1048576) :
    Calls Try.prog 12 #[v, .int .u64 (i : Int)] w fun e w' => ∃ R : Nat, R ≤ 20000000 ∧ SelR b i R ∧ RetV (.int .u64 (R : Int)) w e w' := by
  obtain ⟨a, m, cap, rfl, hr⟩ := h
  have hW : Only (fun _ => False) w (w.alloc (.cells #[.int .u64 (b.length : Int), .slice a m cap] 25)) := (Only.refl _ w).alloc _
  have HS := Lib.hid (set64 (.agg #[.int .u64 (b.length : Int), .slice a m cap]) b _ ⟨a, m, cap, rfl, hr.keep hW (fun _ _ => id)⟩ (by omega))
  have HW := Lib.hid hW
  clear hr hW
  go_enter Try.func12, Try.ntmps12
  go_wp2_with fail
  refine HS.out.mono ?_
  rintro e w1 ⟨o, rfl, hok, hrep, hm, hO1, hf1⟩
  have HO1 : Hid (Only (fun _ => False) w w1) := Lib.hid (HW.out.trans hO1 (fun _ _ f => f))
  have HC := Lib.hid (select o b i w1 hok hrep (by omega) hi)
  clear hO1 hf1 hm hok hrep
  go_wp2_with fail
  refine HC.out.mono ?_
  rintro e w2 ⟨⟨R, hR1, hR2, rfl⟩, rfl⟩
  have HR := Lib.hid hR2
  clear hR2
  go_wp2_with fail
  go_ret
  exact ⟨R, hR1, HR.out, rfl, HO1.out⟩

set_option maxRecDepth 100000 in
set_option maxHeartbeats 800000 in
theorem implRank (v : Value) (b : List Bool) (i : Nat) (w : World) (h : BV w v b) (hn : b.length ≤ 1048000) (hi : i ≤ 20000000) :
    Calls Try.prog 13 #[v, .int .u64 (i : Int)] w (RetV (.int .u64 ((onesTo b (i + 1)).length : Int)) w) := by
  obtain ⟨a, m, cap, rfl, hr⟩ := h
  have hW : Only (fun _ => False) w (w.alloc (.cells #[.int .u64 (b.length : Int), .slice a m cap] 25)) := (Only.refl _ w).alloc _
  have HS := Lib.hid (set64 (.agg #[.int .u64 (b.length : Int), .slice a m cap]) b _ ⟨a, m, cap, rfl, hr.keep hW (fun _ _ => id)⟩ (by omega))
  have HW := Lib.hid hW
  clear hr hW
  go_enter Try.func13, Try.ntmps13
  go_wp2_with fail
  refine HS.out.mono ?_
  rintro e w1 ⟨o, rfl, hok, hrep, hm, hO1, hf1⟩
  have HO1 : Hid (Only (fun _ => False) w w1) := Lib.hid (HW.out.trans hO1 (fun _ _ f => f))
  have HC := Lib.hid (rank o b i w1 hok hrep (by omega) hi)
  clear hO1 hf1 hm hok hrep
  go_wp2_with fail
  refine HC.out.mono ?_
  rintro e w2 ⟨rfl, rfl⟩
  go_wp2_with fail
  go_ret
  exact ⟨rfl, HO1.out⟩
end Go.Proofs.Ytmadpemagfbmlaa.bs

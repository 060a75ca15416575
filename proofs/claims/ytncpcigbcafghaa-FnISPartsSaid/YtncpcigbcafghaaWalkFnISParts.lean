/-
  FnISParts: the walk. Less compares what stands at two places, Swap exchanges it.
-/
import Derived.Test.YtncpcigbcafghaaIsBase
import Derived.Deep.RegionHeld3
namespace Go.Proofs.Ytncpcigbcafghaa.walkFnISParts
open Go.RowKit Go.Proofs.Ytncpcigbcafghaa.base Go.Proofs.Ytncpcigbcafghaa.heap Go.Proofs.Ytncpcigbcafghaa.isl
set_option linter.unusedVariables false

/-- what stands where after an exchange -/
theorem sw (l : List Int) (p q k : Nat) (x y : Int) (hx : l.getD p 0 = x) (hy : l.getD q 0 = y) (hk : k < l.length) :
    ((l.set p y).set q x).getD k 0 = if k = p then y else if k = q then x else l.getD k 0 := by
  simp only [List.getD_eq_getElem?_getD, List.getElem?_set, List.length_set]
  by_cases h1 : q = k
  · subst h1
    by_cases h2 : p = q
    · subst h2
      simp [hk]
      exact hx.symm.trans hy
    · simp [hk, Ne.symm h2]
  · by_cases h2 : p = k
    · subst h2; simp [h1, hk]
    · simp [h1, h2, Ne.symm h1, Ne.symm h2]

set_option maxHeartbeats 800000 in
theorem main (a : Option Addr) (n cap : Nat) (l : List Int) (i j : Nat) (w : World) (h : Rd 1 w a n cap (I l)) (h0 : 0 < n) (h60 : n ≤ 60) (hi : i < 256) (hj : j < 256) :
    Calls Try.prog 4 #[.slice a n cap, .int .u8 (i : Int), .int .u8 (j : Int)] w fun e w' => e = .returned (.bool true) ∧ Below w.heap.size w w' := by
  have hp : i % n < n := Nat.mod_lt _ h0
  have hq : j % n < n := Nat.mod_lt _ h0
  have hne : ((n : Int) == 0) = false := by rw [beq_eq_false_iff_ne]; omega
  have hnn : (!((n : Int) == (n : Int))) = false := by simp
  obtain ⟨p, hpd⟩ : ∃ p : Nat, i % n = p := ⟨_, rfl⟩
  obtain ⟨q, hqd⟩ : ∃ q : Nat, j % n = q := ⟨_, rfl⟩
  have HP : Hid ((i : Int) % (n : Int) = (p : Int)) := Lib.hid (by rw [← hpd, Int.natCast_emod])
  have HQ : Hid ((j : Int) % (n : Int) = (q : Int)) := Lib.hid (by rw [← hqd, Int.natCast_emod])
  rw [hpd] at hp
  rw [hqd] at hq
  have hpi : (p : Int) < (n : Int) := by omega
  have hqi : (q : Int) < (n : Int) := by omega
  clear hpd hqd
  obtain ⟨b, off, rfl, hb, hc⟩ := Rd.int h h0
  have hcp := hc _ hp
  have hcq := hc _ hq
  have hlen : l.length = n := by simpa [I] using h.len
  generalize hx : l.getD (p) 0 = x at *
  generalize hy : l.getD (q) 0 = y at *
  have H := Lib.hid h
  have HX := Lib.hid hx
  have HY := Lib.hid hy
  have HC := Lib.hid hc
  have HL := Lib.hid hlen
  clear h hx hy hc hlen
  go_enter Try.func4, Try.ntmps4
  go_wp2_with fail
  go_quiet (fail)
  rw [HP.out, HQ.out]
  go_wp2_with fail
  refine (isSwap _ n cap l (p) (q) _ (H.out.drewN _) (by omega) hp hq).mono ?_
  rintro e w1 ⟨a1, cap1, rfl, ho, hO, hf⟩
  have hO := hO.undrewN
  have hcp1 : w1.cell? ⟨b, off + p, none⟩ = some (.int .i64 x) := (hO.cell (p := ⟨b, off + p, none⟩) hb id).trans hcp
  have hcq1 : w1.cell? ⟨b, off + q, none⟩ = some (.int .i64 y) := (hO.cell (p := ⟨b, off + q, none⟩) hb id).trans hcq
  go_wp2_with fail
  have HR := Lib.hid (H.out.keep (S := fun _ => False) hO (fun _ _ f => f))
  have HLs : Hid (∀ w', w'.heap = w1.heap → Calls Try.prog 9 #[.slice (some ⟨b, off, none⟩) n cap, .int .i64 (p : Int), .int .i64 (q : Int)] w' (NewBool (decide (x < y)) w')) := Lib.hid (fun w' hw => by
    have := isLess (some ⟨b, off, none⟩) n cap l p q w' (HR.out.of_heap hw) (by omega) hp hq
    rwa [HX.out, HY.out] at this)
  have htest : (!(decide (x < y) == decide (x < y))) = false := by simp
  go_region_held3 (fun w' => w'.cell? ⟨b, off + p, none⟩ = some (.int .i64 x) ∧ w'.cell? ⟨b, off + q, none⟩ = some (.int .i64 y))
    (first | go_keep | (go_split_ands; exact ⟨(hO2.cell (p := ⟨b, off + p, none⟩) (Nat.lt_of_lt_of_le hb hO.size) id).trans hcp1, (hO2.cell (p := ⟨b, off + q, none⟩) (Nat.lt_of_lt_of_le hb hO.size) id).trans hcq1⟩))
    (first | ((go_at_call 9; refine (HLs.out _ (by exact rfl)).mono ?_; rintro e w2 ⟨rfl, hO2⟩)))
  rename_i hHeld
  obtain ⟨b1, rfl, hb1, hc1⟩ := ho.at h0
  have hO2 := hO2.undrew
  have hG : ∀ k, k < n → w2.cell? ⟨b1, k, none⟩ = some (.int .i64 ((((l.set p y).set q x)).getD k 0)) := fun k hk => by
    have h1 := hc1.keep hb1 hO2 id k (.int .i64 ((((l.set p y).set q x)).getD k 0))
      (by rw [HX.out, HY.out]; exact I_get _ k (by simp only [List.length_set, HL.out]; exact hk))
    simpa using h1
  have hLc : ∀ k, k < n → w2.cell? ⟨b, off + k, none⟩ = some (.int .i64 (l.getD k 0)) := fun k hk =>
    (hO2.cell (p := ⟨b, off + k, none⟩) (Nat.lt_of_lt_of_le hb hO.size) id).trans ((hO.cell (p := ⟨b, off + k, none⟩) hb id).trans (HC.out k hk))
  have HG := Lib.hid hG
  have HLc := Lib.hid hLc
  have HB : Hid (Below w.heap.size w w2) := Lib.hid ((hO.trans hO2 (fun _ _ f => f)).below (Nat.le_refl _) (fun _ _ => id))
  have hp2 := hHeld.1
  have hq2 := hHeld.2
  clear hG hLc ho hc1 hHeld
  go_wp2
  go_loop [61] (fun i => ∃ k : Nat, k ≤ n ∧ i = .int .i64 (k : Int)) (fun i => n - (intOf i).toNat)
  case atStart => exact ⟨0, Nat.zero_le _, rfl⟩
  case round =>
    obtain ⟨k, hk, rfl⟩ := hrel
    by_cases hlt : k < n
    · have hg := HG.out k hlt
      have hl := HLc.out k hlt
      have hlt' : (k : Int) < (n : Int) := by omega
      by_cases hkp : k = p
      · have hv := sw l p q k x y HX.out HY.out (by rw [HL.out]; exact hlt)
        rw [if_pos hkp] at hv
        rw [hv] at hg
        clear hv
        subst hkp
        have e1 : ((k : Int) == (k : Int)) = true := by simp
        have e2 : (!(y == y)) = false := by simp
        go_wp2
        go_round
        case rel => exact ⟨k + 1, by omega, by go_num⟩
        case measure => simp [intOf]; omega
      · by_cases hkq : k = q
        · have hv := sw l p q k x y HX.out HY.out (by rw [HL.out]; exact hlt)
          rw [if_neg hkp, if_pos hkq] at hv
          rw [hv] at hg
          clear hv
          subst hkq
          have e1 : ((k : Int) == (p : Int)) = false := by rw [beq_eq_false_iff_ne]; omega
          have e3 : ((k : Int) == (k : Int)) = true := by simp
          have e2 : (!(x == x)) = false := by simp
          go_wp2
          go_round
          case rel => exact ⟨k + 1, by omega, by go_num⟩
          case measure => simp [intOf]; omega
        · have hv := sw l p q k x y HX.out HY.out (by rw [HL.out]; exact hlt)
          rw [if_neg hkp, if_neg hkq] at hv
          rw [hv] at hg
          clear hv
          generalize l.getD k 0 = z at *
          have e1 : ((k : Int) == (p : Int)) = false := by rw [beq_eq_false_iff_ne]; omega
          have e3 : ((k : Int) == (q : Int)) = false := by rw [beq_eq_false_iff_ne]; omega
          have e2 : (!(z == z)) = false := by simp
          go_wp2
          go_round
          case rel => exact ⟨k + 1, by omega, by go_num⟩
          case measure => simp [intOf]; omega
    · have hge : ¬ (k : Int) < (n : Int) := by omega
      go_wp2
      go_ret
      exact ⟨rfl, HB.out⟩

theorem walk (a0 : Option Addr) (len0 cap0 : Nat) (z0 : List Int) (a1 : Int) (a2 : Int) (w : World) (w0 : IsRow .i64 w a0 len0 cap0 z0) (w1 : (Lit.int .u8 a1).wf = true) (w2 : (Lit.int .u8 a2).wf = true) :
    Calls Try.prog 4 #[.slice a0 len0 cap0, .int .u8 a1, .int .u8 a2] w fun e w' => e = .returned (.bool true) ∧ Below w.heap.size w w' := by
  have hrd := IsRow.rd w0
  have hle := w0.le
  have b1 := wf_u8 w1
  have b2 := wf_u8 w2
  by_cases h1 : 2147483647 < len0
  · clear hrd w0 w1 w2
    go_enter Try.func4, Try.ntmps4
    go_wp2_with fail
    go_ret
    exact ⟨rfl, Below.refl _ _⟩
  · by_cases h2 : len0 = 0
    · subst h2
      clear hrd w0 w1 w2
      go_enter Try.func4, Try.ntmps4
      go_wp2_with fail
      go_ret
      exact ⟨rfl, Below.refl _ _⟩
    · by_cases h3 : 60 < len0
      · clear hrd w0 w1 w2
        have hne : ((len0 : Int) == 0) = false := by rw [beq_eq_false_iff_ne]; omega
        go_enter Try.func4, Try.ntmps4
        go_wp2_with fail
        go_ret
        exact ⟨rfl, Below.refl _ _⟩
      · obtain ⟨i, rfl⟩ := Int.eq_ofNat_of_zero_le b1.1
        obtain ⟨j, rfl⟩ := Int.eq_ofNat_of_zero_le b2.1
        exact main a0 len0 cap0 _ i j w hrd (by omega) (by omega) (by omega) (by omega)
end Go.Proofs.Ytncpcigbcafghaa.walkFnISParts

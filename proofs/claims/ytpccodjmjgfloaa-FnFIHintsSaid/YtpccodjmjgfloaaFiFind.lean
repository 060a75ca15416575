/-
  The hash map's search: hash, find; the table in memory.
-/
import Derived.Test.YtpccodjmjgfloaaBase
import Derived.Test.YtpccodjmjgfloaaRw
import Derived.Test.YtpccodjmjgfloaaFiTab
import Derived.Laws.BitsAllLaws
import Derived.OpenShut
namespace Go.Proofs.Ytpccodjmjgfloaa.fi
open Go.RowKit Go.Proofs.Ytpccodjmjgfloaa.base Go.Proofs.Ytpccodjmjgfloaa.heap Go.Proofs.Ytpccodjmjgfloaa.rows
set_option linter.unusedVariables false

set_option maxHeartbeats 800000 in
theorem hash_at (x : Int) : ∃ y : Int, (∀ w, Calls Try.prog 41 #[.int .u64 x] w fun e w' => e = .returned (.int .u64 y) ∧ w = w') ∧ (Lit.int .u64 y).wf = true := by
  apply Exists.intro
  constructor
  · intro w
    go_enter Try.func41, Try.ntmps41
    go_wp2
    go_ret
    exact ⟨rfl, rfl⟩
  · exact wf_bits _ _ _ _
/-- the hash of a key is some number -/
theorem hashes : ∃ H : Nat → Nat, (∀ k, H k < 18446744073709551616) ∧ ∀ (k : Nat) w, Calls Try.prog 41 #[.int .u64 (k : Int)] w fun e w' => e = .returned (.int .u64 (H k : Int)) ∧ w = w' := by
  have key : ∀ k : Nat, ∃ y : Nat, y < 18446744073709551616 ∧ ∀ w, Calls Try.prog 41 #[.int .u64 (k : Int)] w fun e w' => e = .returned (.int .u64 (y : Int)) ∧ w = w' := fun k => by
    obtain ⟨y, hy, hw⟩ := hash_at (k : Int)
    have h := wf_u64 hw
    refine ⟨y.toNat, by omega, fun w => ?_⟩
    rw [Int.toNat_of_nonneg h.1]
    exact hy w
  obtain ⟨H, hH⟩ := Classical.skolem.1 key
  exact ⟨H, fun k => (hH k).1, fun k w => (hH k).2 w⟩

def pv : Option Pk → Value
  | none => .pointer none
  | some p => .pointer (some ⟨p.b, 0, none⟩)
/-- the table that is read -/
structure TabAt (w : World) (tb L : Nat) (T : Tb) : Prop where
  cell : ∀ j, j < L → w.cell? ⟨tb, j, none⟩ = some (pv (slot T j))
  key : ∀ j p, slot T j = some p → w.cell? ⟨p.b, 0, none⟩ = some (.int .u64 (p.k : Int)) ∧ w.cell? ⟨p.b, 1, none⟩ = some (.int .u64 (p.v : Int))

theorem to_free {x s e L : Nat} (hx : x < L) (hs : s < L) (h : (x + s) % L = e) : (e + L - x) % L = s := by
  rcases Nat.lt_or_ge (x + s) L with h1 | h1
  · rw [Nat.mod_eq_of_lt h1] at h
    rw [show e + L - x = s + L by omega, Nat.add_mod_right, Nat.mod_eq_of_lt hs]
  · have h2 : (x + s) % L = x + s - L := by rw [Nat.mod_eq_sub_mod h1, Nat.mod_eq_of_lt (by omega)]
    rw [show e + L - x = s by omega, Nat.mod_eq_of_lt hs]
theorem and_mask (x E : Nat) (hx : x < 18446744073709551616) (hE : E ≤ 20) : bits .and .u64 (x : Int) (((2 ^ E : Nat) : Int) - 1) = ((x % 2 ^ E : Nat) : Int) := by
  have h1 : (2 : Nat) ^ E ≤ 2 ^ 20 := Nat.pow_le_pow_right (by omega) hE
  have h0 : 0 < 2 ^ E := Nat.pow_pos (by omega)
  have h2 : (((2 ^ E : Nat) : Int) - 1) = ((2 ^ E - 1 : Nat) : Int) := by omega
  rw [h2, u64_and_nat x _ hx (by omega), Nat.and_two_pow_sub_one_eq_mod]

set_option maxRecDepth 100000 in
set_option maxHeartbeats 3200000 in
theorem find (H : Nat → Nat) (hH : ∀ k, H k < 18446744073709551616) (hh : ∀ (k : Nat) w, Calls Try.prog 41 #[.int .u64 (k : Int)] w fun e w' => e = .returned (.int .u64 (H k : Int)) ∧ w = w')
    (tb L cap E : Nat) (T : Tb) (key : Nat) (w : World) (hL : L = 2 ^ E) (hE : E ≤ 20) (hcap : L ≤ cap ∧ cap ≤ 9223372036854775807) (hk : key < 18446744073709551616) (ht : TabAt w tb L T) (hf : ∃ e, e < L ∧ slot T e = none) (htk : ∀ j p, slot T j = some p → p.k < 18446744073709551616) :
    Calls Try.prog 40 #[.slice (some ⟨tb, 0, none⟩) L cap, .int .u64 (key : Int)] w fun e w' => ∃ i, Found H L T key i ∧ e = .returned (.int .u64 (i : Int)) ∧ w = w' := by
  obtain ⟨f, hfL, hfn⟩ := hf
  have hL0 : 0 < L := by rw [hL]; exact Nat.pow_pos (by omega)
  have hLm : L ≤ 1048576 := by rw [hL]; exact Nat.pow_le_pow_right (by omega) hE
  obtain ⟨df, hdf, hdfe⟩ := dist (L := L) (H key) f hfL
  have HT := Lib.hid ht
  have HHC := Lib.hid (hh key w)
  have HHK := Lib.hid (hH key)
  have HFN := Lib.hid hfn
  have HDF := Lib.hid hdfe
  have HM : Hid (∀ x : Nat, x < 18446744073709551616 → bits .and .u64 (x : Int) ((L : Int) - 1) = ((x % L : Nat) : Int)) := Lib.hid (fun x hx => by rw [hL]; exact and_mask x E hx hE)
  have HTK := Lib.hid htk
  clear ht hh hH hfn hdfe hL hE htk
  obtain ⟨h, hh⟩ : ∃ h, H key = h := ⟨_, rfl⟩
  have HK := Lib.hid hh
  rw [hh] at HHC HHK HDF
  obtain ⟨i0, hi0⟩ : ∃ i0, h % L = i0 := ⟨_, rfl⟩
  have hm0 := HM.out h HHK.out
  rw [hi0] at hm0
  have HI0 := Lib.hid hi0
  have HLL := Lib.hid hL0
  clear hh hi0
  go_enter Try.func40, Try.ntmps40
  go_wp2_with fail
  refine HHC.out.mono ?_
  rintro e w1 ⟨rfl, rfl⟩
  go_wp2_with fail
  go_loop [6] (fun i => ∃ d ii : Nat, i = .int .u64 (ii : Int) ∧ Hid (ii = (h + d) % L) ∧ d ≤ df ∧ Hid (∀ d', d' < d → ∃ p, slot T ((h + d') % L) = some p ∧ p.k ≠ key)) (fun i => (f + L - (intOf i).toNat) % L)
  case atStart => exact ⟨0, i0, rfl, Lib.hid (by rw [← HI0.out]; rfl), Nat.zero_le _, Lib.hid (fun d' hd' => by omega)⟩
  case round =>
    clear hm0
    obtain ⟨d, ii, rfl, HII, hdd, HP⟩ := hrel
    have hil : ii < L := by rw [HII.out]; exact Nat.mod_lt _ hL0
    have hil' : (ii : Int) < (L : Int) := by omega
    have hi0' : (0 : Int) ≤ (ii : Int) := by omega
    have c0 := HT.out.cell ii hil
    cases hs : slot T ii with
    | none =>
      rw [hs] at c0
      have HFIN : Hid (Found H L T key ii) := Lib.hid ⟨d, by omega, by rw [HK.out]; exact HII.out, by rw [HK.out]; exact HP.out, .inl hs⟩
      simp only [pv] at c0
      clear hs
      go_wp2
      go_ret
      exact ⟨ii, HFIN.out, rfl, rfl⟩
    | some p =>
      rw [hs] at c0
      simp only [pv] at c0
      have c1 := (HT.out.key ii p hs).1
      have hpk := HTK.out ii p hs
      by_cases hk : p.k = key
      · have HFIN : Hid (Found H L T key ii) := Lib.hid ⟨d, by omega, by rw [HK.out]; exact HII.out, by rw [HK.out]; exact HP.out, .inr ⟨p, hs, hk⟩⟩
        rw [hk] at c1
        clear hs hk
        go_wp2
        go_ret
        exact ⟨ii, HFIN.out, rfl, rfl⟩
      · have hne : ((p.k : Int) != (key : Int)) = true := by simp; omega
        have hdlt : d < df := by
          rcases Nat.lt_or_ge d df with h1 | h1
          · exact h1
          · exfalso
            have : d = df := by omega
            rw [HII.out, this, HDF.out, HFN.out] at hs
            cases hs
        obtain ⟨i2, hi2⟩ : ∃ i2, (ii + 1) % L = i2 := ⟨_, rfl⟩
        have hm1 : bits .and .u64 ((ii : Int) + 1) ((L : Int) - 1) = (i2 : Int) := by
          have := HM.out (ii + 1) (by omega)
          rw [hi2] at this
          exact this
        have HP2 : Hid (∀ d', d' < d + 1 → ∃ p, slot T ((h + d') % L) = some p ∧ p.k ≠ key) := Lib.hid (fun d' hd' => by
          rcases Nat.lt_or_ge d' d with h1 | h1
          · exact HP.out d' h1
          · have : d' = d := by omega
            subst this
            exact ⟨p, by rw [← HII.out]; exact hs, hk⟩)
        have HI2 : Hid (i2 = (h + (d + 1)) % L) := Lib.hid (by
          rw [← hi2, ← Nat.add_assoc]
          exact shift (L := L) (s := 1) (by rw [HII.out, Nat.mod_mod]))
        have HMS : Hid ((f + L - i2) % L < (f + L - ii) % L) := Lib.hid (by
          have e1 : (f + L - ii) % L = df - d := to_free hil (by omega) (by
            rw [HII.out, Nat.mod_add_mod, show h + d + (df - d) = h + df by omega]; exact HDF.out)
          have e2 : (f + L - i2) % L = df - (d + 1) := to_free (by rw [HI2.out]; exact Nat.mod_lt _ hL0) (by omega) (by
            rw [HI2.out, Nat.mod_add_mod, show h + (d + 1) + (df - (d + 1)) = h + df by omega]; exact HDF.out)
          omega)
        clear hs hk hi2
        go_wp2
        go_round
        case rel => exact ⟨d + 1, i2, rfl, HI2, by omega, HP2⟩
        case measure => simpa [intOf] using HMS.out
end Go.Proofs.Ytpccodjmjgfloaa.fi

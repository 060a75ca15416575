/-
  The search of an x-fast trie's layers.
-/
import Derived.Test.YtkplikpncpcjdaaDoorXfObj
namespace Go.Proofs.YtkplikpncpcjdaaDoor.xf
open Go.RowKit Go.Proofs.YtkplikpncpcjdaaDoor.base Go.Proofs.YtkplikpncpcjdaaDoor.heap Go.Proofs.YtkplikpncpcjdaaDoor.rows Go.Proofs.YtkplikpncpcjdaaDoor.mapn
set_option linter.unusedVariables false

/-- the package's two tables -/
def Tabs (w : World) : Prop := (∀ i, i < 64 → w.cell? ⟨0, i, none⟩ = some (.int .u64 ((2 ^ (63 - i) : Nat) : Int))) ∧ (∀ i, i < 64 → w.cell? ⟨1, i, none⟩ = some (.int .u64 ((2 ^ 64 - 2 ^ (63 - i) : Nat) : Int))) ∧ 1 < w.heap.size
theorem Tabs.keep {S : Nat → Prop} {w w' : World} (h : Tabs w) (ho : Only S w w') (hn : ∀ k, k < 2 → ¬ S k) : Tabs w' :=
  ⟨fun i hi => (ho.cell (p := ⟨0, i, none⟩) (by have := h.2.2; show 0 < _; omega) (hn 0 (by decide))).trans (h.1 i hi), fun i hi => (ho.cell (p := ⟨1, i, none⟩) h.2.2 (hn 1 (by decide))).trans (h.2.1 i hi), by have := ho.size; have := h.2.2; omega⟩
theorem Tabs.still {w w' : World} (h : Tabs w) (ho : Same w w') : Tabs w' := h.keep ho (fun _ _ => id)
/-- the layers: where a prefix's node lies -/
abbrev Lk := Nat → Nat → Option Nat
structure Lay (w : World) (m lb : Nat) (md : Nat → Nat) (lk : Lk) : Prop where
  m2 : 2 ≤ m ∧ m ≤ 64
  row : ∀ i, i < m → w.cell? ⟨lb, i, none⟩ = some (.map (some (md i)))
  lb : lb < w.heap.size
  maps : ∀ i, i < m → ∃ f, MapN w (md i) f ∧ ∀ x, x < 2 ^ m → f (cut m (i + 1) x) = (lk (i + 1) (pre m (i + 1) x)).map (fun b => op (some b))
theorem Lay.keep {S : Nat → Prop} {w w' : World} {m lb : Nat} {md : Nat → Nat} {lk : Lk} (h : Lay w m lb md lk) (ho : Only S w w') (h1 : ¬ S lb) (h2 : ∀ i, i < m → ¬ S (md i)) : Lay w' m lb md lk :=
  ⟨h.m2, fun i hi => (ho.cell (p := ⟨lb, i, none⟩) h.lb h1).trans (h.row i hi), Nat.lt_of_lt_of_le h.lb ho.size, fun i hi => by
    obtain ⟨f, h3, h4⟩ := h.maps i hi
    exact ⟨f, h3.of_heap (ho.block _ h3.lt (h2 i hi)), h4⟩⟩
theorem Lay.still {w w' : World} {m lb : Nat} {md : Nat → Nat} {lk : Lk} (h : Lay w m lb md lk) (ho : Same w w') : Lay w' m lb md lk := h.keep ho id (fun _ _ => id)
/-- prefixes are there with all that are shorter -/
def Tree (m : Nat) (lk : Lk) : Prop := ∀ d p, d < m → lk (d + 1) p ≠ none → lk d (p / 2) ≠ none
theorem zeroN (w : World) : (zeroValue 67).run Tryd.prog w = .ok (op none) w := by
  simp [zeroValue, typeInfo, Result.andThen]
  rfl
theorem Lay.look {w : World} {m lb : Nat} {md : Nat → Nat} {lk : Lk} (h : Lay w m lb md lk) {i x : Nat} (hi : i < m) (hx : x < 2 ^ m) (c : Bool) :
    (Instr.lookup 76 (.map (some (md i))) (.int .u64 ((cut m (i + 1) x : Nat) : Int)) c).run Tryd.prog w = .ok (if c then .tuple #[op (lk (i + 1) (pre m (i + 1) x)), .bool (lk (i + 1) (pre m (i + 1) x)).isSome] else op (lk (i + 1) (pre m (i + 1) x))) w := by
  obtain ⟨f, h1, h2⟩ := h.maps i hi
  have := h1.look Tryd.underlying25 Tryd.underlying76 (zeroN w) (cut m (i + 1) x) c
  rw [h2 x hx] at this
  rw [show (Value.int .u64 ((cut m (i + 1) x : Nat) : Int)) = uk (cut m (i + 1) x) from rfl, this]
  cases lk (i + 1) (pre m (i + 1) x) <;> rfl
/-- said of the search -/
def SeP (m : Nat) (lk : Lk) (x : Nat) (w : World) (e : Ending) (w' : World) : Prop :=
  ∃ (D : Nat) (r : Option Nat), e = .returned (.tuple #[.int .i64 (D : Int), op r]) ∧ Same w w' ∧ D < m ∧ (∀ d, 1 ≤ d → d ≤ D → lk d (pre m d x) ≠ none) ∧ lk (D + 1) (pre m (D + 1) x) = none ∧ r = if D = 0 then none else lk D (pre m D x)
set_option maxRecDepth 100000 in
set_option maxHeartbeats 3200000 in
theorem search (w : World) (m lb : Nat) (md : Nat → Nat) (lk : Lk) (x : Nat) (hT : Tabs w) (hL : Lay w m lb md lk) (hx : x < 2 ^ m) (hn : lk m x = none) (ht : Tree m lk) :
    Calls Tryd.prog 38 #[.slice (some ⟨lb, 0, none⟩) m m, .int .u64 (x : Int)] w (SeP m lk x w) := by
  obtain ⟨hm2, hm64⟩ := hL.m2
  have HL := Lib.hid hL
  have HT := Lib.hid hT
  have HX := Lib.hid hx
  have HN := Lib.hid hn
  have HTR := Lib.hid ht
  clear hL hT hx hn ht
  go_enter Tryd.func38, Tryd.ntmps38
  go_wp2_with fail
  go_loopw [6, 7, 10] (fun lo hi nd wr => ∃ (l h : Nat) (r : Option Nat), lo = .int .i64 (l : Int) ∧ hi = .int .i64 ((h : Int) - 1) ∧ nd = op r ∧ l ≤ h ∧ h ≤ m ∧ Hid (Same w wr ∧ (∀ d, 1 ≤ d → d ≤ l → lk d (pre m d x) ≠ none) ∧ (h < m → lk (h + 1) (pre m (h + 1) x) = none) ∧ r = if l = 0 then none else lk l (pre m l x))) (fun lo hi _ _ => (intOf hi - intOf lo + 1).toNat)
  case atStart => exact ⟨0, m, none, rfl, rfl, rfl, Nat.zero_le _, Nat.le_refl _, Lib.hid ⟨Only.refl _ _, fun d h1 h2 => by omega, fun h => by omega, rfl⟩⟩
  case round =>
    obtain ⟨l, h, r, rfl, rfl, rfl, hlh, hhm, HI⟩ := hrel
    by_cases hlt : l < h
    · have hlt' : (l : Int) ≤ (h : Int) - 1 := by omega
      obtain ⟨i, hi⟩ : ∃ i, (l + h - 1) / 2 = i := ⟨_, rfl⟩
      have hi1 : l ≤ i ∧ i < h := by omega
      have hq : ((l : Int) + ((h : Int) - 1)).tdiv 2 = (i : Int) := by rw [Int.tdiv_eq_ediv_of_nonneg (by omega)]; omega
      have him : i < m := by omega
      have HC := Lib.hid ((HL.out.still HI.out.1).row i him)
      have c0 := HC.out
      have HM := Lib.hid ((HT.out.still HI.out.1).2.1 (64 - m + i) (by omega))
      obtain ⟨M, hM⟩ : ∃ M : Int, ((2 ^ 64 - 2 ^ (63 - (64 - m + i)) : Nat) : Int) = M := ⟨_, rfl⟩
      have c1 := HM.out
      rw [hM] at c1
      have hand : bits .and .u64 (x : Int) M = ((cut m (i + 1) x : Nat) : Int) := by
        rw [← hM]
        have hx64 : x < 2 ^ 64 := Nat.lt_of_lt_of_le HX.out (Nat.pow_le_pow_right (by decide) hm64)
        rw [u64_and_nat x _ (by simpa using hx64) (by have := Nat.two_pow_pos (63 - (64 - m + i)); omega), and_high hx64 (by omega)]
        unfold cut
        rw [show 63 - (64 - m + i) = m - (i + 1) by omega]
      have hlook : ∀ n, _ := fun n => (HL.out.still (HI.out.1.drewN n)).look him HX.out true
      obtain ⟨y, hy⟩ : ∃ y, cut m (i + 1) x = y := ⟨_, rfl⟩
      rw [hy] at hand hlook
      simp only [if_true] at hlook
      clear hM
      obtain ⟨t, ht⟩ : ∃ t, 64 - m + i = t := ⟨_, rfl⟩
      rw [ht] at c1
      have ht1 : (t : Int) < 64 := by omega
      have hw : IntKind.i64.wrap ((64 : Int) - (m : Int) + (i : Int)) = (t : Int) := by rw [IntWalk.i64_in _ (by omega)]; omega
      clear ht
      cases hr' : lk (i + 1) (pre m (i + 1) x) with
      | none =>
        rw [hr'] at hlook
        have hlook2 : ∀ n, (Instr.lookup 76 (.map (some (md i))) (.int .u64 (y : Int)) true).run Tryd.prog (wr.drewN n) = .ok (.tuple #[.pointer none, .bool false]) (wr.drewN n) := hlook
        have HR := Lib.hid hr'
        clear hlook hr'
        go_wp2_with fail
        go_quiet (fail)
        go_wp2_with fail
        go_roundw
        case rel => exact ⟨l, i, r, rfl, rfl, rfl, hi1.1, by omega, Lib.hid ⟨HI.out.1.drewN nq, HI.out.2.1, fun _ => HR.out, HI.out.2.2.2⟩⟩
        case measure => simp [intOf]; omega
      | some b' =>
        rw [hr'] at hlook
        have hlook2 : ∀ n, (Instr.lookup 76 (.map (some (md i))) (.int .u64 (y : Int)) true).run Tryd.prog (wr.drewN n) = .ok (.tuple #[.pointer (some ⟨b', 0, none⟩), .bool true]) (wr.drewN n) := hlook
        have HR := Lib.hid hr'
        clear hlook hr'
        go_wp2_with fail
        go_quiet (fail)
        go_wp2_with fail
        go_roundw
        case rel =>
          refine ⟨i + 1, h, some b', by go_num, rfl, rfl, by omega, hhm, Lib.hid ⟨HI.out.1.drewN nq, fun d h1 h2 => ?_, HI.out.2.2.1, ?_⟩⟩
          · have h3 : ∀ e, d + e = i + 1 → lk d (pre m d x) ≠ none := fun e => by
              induction e generalizing d with
              | zero =>
                intro h4
                obtain rfl : d = i + 1 := by omega
                rw [HR.out]; simp
              | succ e ih =>
                intro h4
                have := ih (d + 1) (by omega) (by omega) (by omega)
                have := HTR.out d _ (by omega) this
                rwa [pre_half (by omega)] at this
            exact h3 (i + 1 - d) (by omega)
          · rw [if_neg (by omega), HR.out]
        case measure => simp [intOf]; omega
    · have hlt' : ¬ (l : Int) ≤ (h : Int) - 1 := by omega
      obtain rfl : l = h := by omega
      go_wp2_with fail
      refine bodyPost_ret (v := .tuple #[.int .i64 (l : Int), op r]) (by first | rfl | simp [results, Tryd.results38, go_sem]) rfl ?_
      have hlm : l ≠ m := fun e => by
        subst e
        have := HI.out.2.1 l (by omega) (Nat.le_refl _)
        rw [pre_full] at this
        exact this HN.out
      exact ⟨l, r, rfl, HI.out.1, by omega, HI.out.2.1, HI.out.2.2.1 (by omega), HI.out.2.2.2⟩
end Go.Proofs.YtkplikpncpcjdaaDoor.xf

/-
  symMerge: two neighbouring sorted ranges are merged in place.
-/
import Derived.Test.YtceonnacpakjhaaMgSearch
import Derived.Deep.DeepCutAuto
namespace Go.Proofs.Ytceonnacpakjhaa.mg
open Go.RowKit Go.Proofs.Ytceonnacpakjhaa.base Go.Proofs.Ytceonnacpakjhaa.heap Go.Proofs.Ytceonnacpakjhaa.rows Go.Proofs.Ytceonnacpakjhaa.pq
set_option linter.unusedVariables false

/-- what comes of a merge in place -/
def SmP (a b g n cap : Nat) (L : List It) (w : World) (e : Ending) (w' : World) : Prop :=
  e = .returned (.tuple #[]) ∧ ∃ L', Mv a b L L' ∧ Srt a b L' ∧ Me w' (some ⟨g, 0, none⟩) n cap L' ∧ Only (At (some ⟨g, 0, none⟩)) w w'

set_option maxRecDepth 100000 in
set_option maxHeartbeats 3200000 in
theorem symMerge0 (a m b g n cap : Nat) (L : List It) (w : World) (h : Me w (some ⟨g, 0, none⟩) n cap L) (hs1 : Srt a m L) (hs2 : Srt m b L) (ha : a ≤ m) (hb : m ≤ b) (h0 : ¬ (a < m ∧ m < b)) :
    Calls Try.prog 18 #[.slice (some ⟨g, 0, none⟩) n cap, .int .i64 (a : Int), .int .i64 (m : Int), .int .i64 (b : Int)] w (SmP a b g n cap L w) := by
  have hS : Srt a b L := by
    by_cases c : a < m
    · have : m = b := by omega
      subst this; exact hs1
    · have : a = m := by omega
      subst this; exact hs2
  have HM := Lib.hid (And.intro h hS)
  clear h hs1 hs2 hS
  by_cases c : a < m
  · have c1 : (a : Int) < (m : Int) := by omega
    have c2 : ¬ (m : Int) < (b : Int) := by omega
    clear h0 ha hb c
    go_enter Try.func18, Try.ntmps18
    go_wp2_with fail
    go_end0
    exact ⟨rfl, L, Mv.refl _ _ _, HM.out.2, HM.out.1, Only.refl _ _⟩
  · have c1 : ¬ (a : Int) < (m : Int) := by omega
    clear h0 ha hb c
    go_enter Try.func18, Try.ntmps18
    go_wp2_with fail
    go_end0
    exact ⟨rfl, L, Mv.refl _ _ _, HM.out.2, HM.out.1, Only.refl _ _⟩

set_option maxRecDepth 100000 in
set_option maxHeartbeats 6400000 in
theorem symMerge : ∀ (d a m b g n cap : Nat) (L : List It) (w : World), b - a ≤ d → Me w (some ⟨g, 0, none⟩) n cap L → Srt a m L → Srt m b L → a ≤ m → m ≤ b → b ≤ n → n < 1000000 →
    Calls Try.prog 18 #[.slice (some ⟨g, 0, none⟩) n cap, .int .i64 (a : Int), .int .i64 (m : Int), .int .i64 (b : Int)] w (SmP a b g n cap L w)
  | 0, a, m, b, g, n, cap, L, w, hd, h, hs1, hs2, ha, hb, hn, hsz => symMerge0 a m b g n cap L w h hs1 hs2 ha hb (by omega)
  | d + 1, a, m, b, g, n, cap, L, w, hd, h, hs1, hs2, ha, hb, hn, hsz => by
    by_cases h0 : ¬ (a < m ∧ m < b)
    · exact symMerge0 a m b g n cap L w h hs1 hs2 ha hb h0
    replace h0 : a < m ∧ m < b := Decidable.not_not.1 h0
    have hbd := h.bound
    have hl := h.2
    obtain ⟨u, hu⟩ : ∃ u, a + b = u := ⟨_, rfl⟩
    obtain ⟨mid, hmid⟩ : ∃ c, u / 2 = c := ⟨_, rfl⟩
    obtain ⟨N, hN⟩ : ∃ c, mid + m = c := ⟨_, rfl⟩
    obtain ⟨T, hT⟩ : ∃ c, N - 1 = c := ⟨_, rfl⟩
    have e1 : (a : Int) + (b : Int) = (u : Int) := by omega
    have e2 : (u : Int).tdiv 2 = (mid : Int) := by rw [half, hmid]
    have e3 : (mid : Int) + (m : Int) = (N : Int) := by omega
    have e4 : (N : Int) - 1 = (T : Int) := by omega
    have f1 := i64_nat (k := u) (by omega)
    have f2 := i64_nat (k := mid) (by omega)
    have f3 := i64_nat (k := N) (by omega)
    have f4 := i64_nat (k := T) (by omega)
    have c1 : (a : Int) < (m : Int) := by omega
    have c2 : (m : Int) < (b : Int) := by omega
    have HD := Lib.hid (And.intro (And.intro hd h0) (And.intro (And.intro hu hmid) (And.intro hN hT)))
    have HM := Lib.hid h
    have HS := Lib.hid (And.intro hs1 hs2)
    have HB := Lib.hid (And.intro (And.intro hn hsz) hl)
    clear h hs1 hs2 hd h0 ha hb hu hmid hN hT hn hsz hl hbd
    go_enter Try.func18, Try.ntmps18
    go_upto_if 29 with fail
    go_cut [10] (fun c wx => ∃ st : Nat, c = .int .i64 (st : Int) ∧ Hid (Parts a m b mid st L (rotL L st m (mid + m - st)) ∧ Same w wx))
    case first =>
      by_cases hgt : mid < m
      · have hgt' : (mid : Int) < (m : Int) := by omega
        obtain ⟨lo, hlo⟩ : ∃ c, N - b = c := ⟨_, rfl⟩
        have e5 : (N : Int) - (b : Int) = (lo : Int) := by have := HD.out; omega
        have f5 := i64_nat (k := lo) (by have := HD.out; have := HB.out; omega)
        have HC := Lib.hid (symBinarySearch lo mid T g n cap L w HM.out (by have := HD.out; omega) (by have := HD.out; have := HB.out; omega) (by have := HD.out; omega) (by have := HD.out; have := HB.out; omega) HB.out.1.2)
        have HG := Lib.hid hgt
        have HLo := Lib.hid hlo
        clear hgt hlo
        go_wp2_with (go_at_call 26; with_reducible refine HC.out.mono ?_)
        rintro e w1 ⟨st, rfl, hst, h1, h2, hs⟩
        have HP : Hid (Parts a m b mid st L (rotL L st m (mid + m - st)) ∧ Same w w1) := Lib.hid ⟨by
          have := HD.out
          have := HLo.out
          have hgt := HG.out
          refine sym_parts (lo := lo) (hi := mid) HS.out.1 HS.out.2 (by omega) (by omega) (by have := HB.out; omega) (by omega) (.inl ⟨hgt, by omega, rfl⟩) hst.1 hst.2 ?_ ?_
          · rcases h1 with h1 | h1
            · exact .inl h1
            · by_cases hst0 : st = lo
              · exact .inl hst0
              · right
                rw [show mid + m - st = T - (st - 1) by omega]; exact h1
          · rcases h2 with h2 | h2
            · exact .inl h2
            · right
              rw [show mid + m - 1 - st = T - st by omega]; exact h2, hs⟩
        clear hst h1 h2 hs
        go_wp2_with fail
        go_meet
        exact ⟨st, rfl, HP⟩
      · have hgt' : ¬ (mid : Int) < (m : Int) := by omega
        have HC := Lib.hid (symBinarySearch a m T g n cap L w HM.out (by have := HD.out; omega) (by have := HD.out; have := HB.out; omega) (by have := HD.out; omega) (by have := HD.out; have := HB.out; omega) HB.out.1.2)
        have HG := Lib.hid hgt
        clear hgt
        go_wp2_with (go_at_call 26; with_reducible refine HC.out.mono ?_)
        rintro e w1 ⟨st, rfl, hst, h1, h2, hs⟩
        have HP : Hid (Parts a m b mid st L (rotL L st m (mid + m - st)) ∧ Same w w1) := Lib.hid ⟨by
          have := HD.out
          have hgt := HG.out
          refine sym_parts (lo := a) (hi := m) HS.out.1 HS.out.2 (by omega) (by omega) (by have := HB.out; omega) (by omega) (.inr ⟨by omega, rfl, rfl⟩) hst.1 hst.2 ?_ ?_
          · rcases h1 with h1 | h1
            · exact .inl h1
            · by_cases hst0 : st = a
              · exact .inl hst0
              · right
                rw [show mid + m - st = T - (st - 1) by omega]; exact h1
          · rcases h2 with h2 | h2
            · exact .inl h2
            · right
              rw [show mid + m - 1 - st = T - st by omega]; exact h2, hs⟩
        clear hst h1 h2 hs
        go_wp2_with fail
        go_meet
        exact ⟨st, rfl, HP⟩
    case rest =>
      obtain ⟨st, rfl, HP⟩ := hcut
      obtain ⟨w1, hw1⟩ : ∃ w1, w1 = wc := ⟨_, rfl⟩
      rw [← hw1] at HP ⊢
      clear hw1
      obtain ⟨en, hen⟩ : ∃ c, N - st = c := ⟨_, rfl⟩
      have hen2 : mid + m - st = en := by have := HD.out; omega
      rw [hen2] at HP
      have hle := HP.out.1.le
      have hle2 : a ≤ st ∧ st ≤ m ∧ m ≤ en ∧ en ≤ b ∧ st ≤ mid ∧ mid ≤ en := by omega
      have e5 : (N : Int) - (st : Int) = (en : Int) := by have := HD.out; omega
      have f5 := i64_nat (k := en) (by have := HD.out; have := HB.out; omega)
      have HR := Lib.hid (symRotate st m en g n cap L w1 (OL.still HM.out HP.out.2) hle2.2.1 hle2.2.2.1 (by have := HB.out; omega))
      have hp1 := HP.out.1
      have HE := Lib.hid (And.intro hen hle2)
      have HP2 : Hid (Parts a m b mid st L (rotL L st m en)) := Lib.hid hp1
      have hs1 := HP.out.2
      have HO1 := Lib.hid hs1
      clear HP hp1 hs1 hle hle2 hen hen2
      generalize rotL L st m en = F at *
      go_wp2_with (go_at_call 27; with_reducible refine HR.out.mono ?_)
      rintro e w2 h3
      obtain ⟨rfl, hr2, hO2⟩ : e = .returned (.tuple #[]) ∧ Me w2 (some ⟨g, 0, none⟩) n cap F ∧ Only (At (some ⟨g, 0, none⟩)) w1 w2 := h3
      have HR1 := Lib.hid (symMerge d a st mid g n cap F w2 (by have := HD.out; have := HE.out; omega) hr2 HP2.out.s1 HP2.out.s2 HE.out.2.1 HE.out.2.2.2.2.2.1 (by have := HD.out; have := HE.out; have := HB.out; omega) HB.out.1.2)
      have HO2 := Lib.hid hO2
      clear hr2 hO2 HR
      go_wp2_with (go_at_call 18; with_reducible refine HR1.out.mono ?_)
      rintro e w3 h3
      obtain ⟨rfl, F1, mv1, so1, hr3, hO3⟩ : e = .returned (.tuple #[]) ∧ ∃ L', Mv a mid F L' ∧ Srt a mid L' ∧ Me w3 (some ⟨g, 0, none⟩) n cap L' ∧ Only (At (some ⟨g, 0, none⟩)) w2 w3 := h3
      have HO3 := Lib.hid hO3
      have H1 := Lib.hid (And.intro mv1 so1)
      have HR2 := Lib.hid (symMerge d mid en b g n cap F1 w3 (by have := HD.out; omega) hr3
        (HP2.out.s3.keep (fun i h1 h2 => mv1.out i (by omega)) |>.part (Nat.le_refl _) (by have := HD.out; have := HE.out; omega))
        (HP2.out.s4.keep (fun i h1 h2 => mv1.out i (by have := HD.out; have := HE.out; omega)) |>.part (by have := HD.out; have := HE.out; omega) (Nat.le_refl _)) HE.out.2.2.2.2.2.2 HE.out.2.2.2.2.1 HB.out.1.1 HB.out.1.2)
      clear hr3 hO3 mv1 so1 HR1
      go_wp2_with (go_at_call 18; with_reducible refine HR2.out.mono ?_)
      rintro e w4 h3
      obtain ⟨rfl, F2, mv2, so2, hr4, hO4⟩ : e = .returned (.tuple #[]) ∧ ∃ L', Mv mid b F1 L' ∧ Srt mid b L' ∧ Me w4 (some ⟨g, 0, none⟩) n cap L' ∧ Only (At (some ⟨g, 0, none⟩)) w3 w4 := h3
      have HF : Hid (∃ L', Mv a b L L' ∧ Srt a b L' ∧ Me w4 (some ⟨g, 0, none⟩) n cap L' ∧ Only (At (some ⟨g, 0, none⟩)) w w4) := Lib.hid (by
        have := HD.out
        have := HE.out
        refine ⟨F2, (HP2.out.mv.trans (H1.out.1.wide (Nat.le_refl _) (by omega))).trans (mv2.wide (by omega) (Nat.le_refl _)), sym_join HP2.out.cross H1.out.1 H1.out.2 mv2 so2, hr4, ?_⟩
        exact (((HO1.out.mono (fun _ _ f => f.elim)).trans HO2.out (fun _ _ f => f)).trans HO3.out (fun _ _ f => f)).trans hO4 (fun _ _ f => f))
      clear hr4 hO4 mv2 so2
      go_wp2_with fail
      go_end0
      exact ⟨rfl, HF.out⟩
end Go.Proofs.Ytceonnacpakjhaa.mg

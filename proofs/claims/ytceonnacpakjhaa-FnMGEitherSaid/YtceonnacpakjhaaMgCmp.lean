/-
  slices: the symmetric merge of two neighbouring sorted ranges.
-/
import Derived.Test.YtceonnacpakjhaaMgOne
namespace Go.Proofs.Ytceonnacpakjhaa.mg
open Go.RowKit Go.Proofs.Ytceonnacpakjhaa.base Go.Proofs.Ytceonnacpakjhaa.heap Go.Proofs.Ytceonnacpakjhaa.rows Go.Proofs.Ytceonnacpakjhaa.pq
set_option linter.unusedVariables false

/-- between what the search goes -/
def LoHi (a m b mid lo hi : Nat) : Prop := (mid < m ∧ lo = mid + m - b ∧ hi = mid) ∨ (m ≤ mid ∧ lo = a ∧ hi = m)
/-- what the row is while the halves are merged: the list, and that nothing else has changed -/
def Half (g n cap : Nat) (F : List It) (w wx : World) : Prop := Mi wx g n cap F ∧ Only (At (some ⟨g, 0, none⟩)) w wx

set_option maxRecDepth 100000 in
set_option maxHeartbeats 12800000 in
theorem smStep (a m b g n cap : Nat) (L : List It) (w : World)
    (IH : ∀ (a' m' b' : Nat) (L' : List It) (w' : World), b' - a' < b - a → Mi w' g n cap L' → Srt a' m' L' → Srt m' b' L' → a' < m' → m' < b' → b' ≤ n →
      Calls Try.prog 20 #[.slice (some ⟨g, 0, none⟩) n cap, .int .i64 (a' : Int), .int .i64 (m' : Int), .int .i64 (b' : Int), cmpV] w' (InP a' b' g n cap L' w'))
    (h : Mi w g n cap L) (hs1 : Srt a m L) (hs2 : Srt m b L) (ha : a + 1 < m) (hb : m + 1 < b) (hn : b ≤ n) (hsz : n < 1000000) :
    Calls Try.prog 20 #[.slice (some ⟨g, 0, none⟩) n cap, .int .i64 (a : Int), .int .i64 (m : Int), .int .i64 (b : Int), cmpV] w (InP a b g n cap L w) := by
  have hbd := h.bound
  have hl := h.2
  obtain ⟨x1, hx1⟩ : ∃ u, m - a = u := ⟨_, rfl⟩
  obtain ⟨x2, hx2⟩ : ∃ u, b - m = u := ⟨_, rfl⟩
  obtain ⟨u, hu⟩ : ∃ u, a + b = u := ⟨_, rfl⟩
  obtain ⟨mid, hmid⟩ : ∃ c, u / 2 = c := ⟨_, rfl⟩
  obtain ⟨N, hN⟩ : ∃ c, mid + m = c := ⟨_, rfl⟩
  obtain ⟨T, hT⟩ : ∃ c, N - 1 = c := ⟨_, rfl⟩
  have e1 : (a : Int) + (b : Int) = (u : Int) := by omega
  have e2 : (u : Int) / 2 = (mid : Int) := by omega
  have e3 : (mid : Int) + (m : Int) = (N : Int) := by omega
  have e4 : (N : Int) - 1 = (T : Int) := by omega
  have f1 := i64_nat (k := u) (by omega)
  have f1' := u64_nat (k := u) (by omega)
  have f2 := i64_nat (k := mid) (by omega)
  have f3 := i64_nat (k := N) (by omega)
  have f4 := i64_nat (k := T) (by omega)
  have y1 : (m : Int) - (a : Int) = (x1 : Int) := by omega
  have y2 : (b : Int) - (m : Int) = (x2 : Int) := by omega
  have y3 := i64_nat (k := x1) (by omega)
  have y4 := i64_nat (k := x2) (by omega)
  have z1 : ¬ (x1 : Int) = 1 := by omega
  have z2 : ¬ (x2 : Int) = 1 := by omega
  have HD := Lib.hid (And.intro (And.intro ha hb) (And.intro (And.intro hu hmid) (And.intro hN hT)))
  have HM := Lib.hid h
  have HS := Lib.hid (And.intro hs1 hs2)
  have HB := Lib.hid (And.intro (And.intro hn hsz) hl)
  have HIH := Lib.hid IH
  have hmb : mid < b := by omega
  have ham : a < mid := by omega
  clear h hs1 hs2 ha hb hu hmid hN hT hn hsz hl hbd hx1 hx2 IH
  go_enter Try.func20, Try.ntmps20
  go_upto_if 140 with fail
  go_cut [20, 21] (fun x y wx => ∃ lo hi : Nat, x = .int .i64 (lo : Int) ∧ y = .int .i64 (hi : Int) ∧ wx = w ∧ Hid (LoHi a m b mid lo hi))
  case first => as_aux_lemma =>
    by_cases hgt : mid < m
    · have hgt' : (mid : Int) < (m : Int) := by omega
      obtain ⟨lo, hlo⟩ : ∃ c, N - b = c := ⟨_, rfl⟩
      have e5 : (N : Int) - (b : Int) = (lo : Int) := by have := HD.out; omega
      have f5 := i64_nat (k := lo) (by have := HD.out; have := HB.out; omega)
      have HLo : Hid (LoHi a m b mid lo mid) := Lib.hid (.inl ⟨hgt, by have := HD.out; omega, rfl⟩)
      clear hgt hlo
      go_wp2_with fail
      go_meet
      exact ⟨lo, mid, rfl, rfl, rfl, HLo⟩
    · have hgt' : ¬ (mid : Int) < (m : Int) := by omega
      have HLo : Hid (LoHi a m b mid a m) := Lib.hid (.inr ⟨by omega, rfl, rfl⟩)
      clear hgt
      go_wp2_with fail
      go_meet
      exact ⟨a, m, rfl, rfl, rfl, HLo⟩
  case rest => as_aux_lemma =>
    obtain ⟨lo, hi, rfl, rfl, hw, HLo⟩ := hcut
    have hw' := hw.symm
    clear hw
    subst hw'
    have hlh : lo ≤ hi ∧ hi ≤ mid ∧ hi ≤ m ∧ a ≤ lo := by
      have := HD.out
      rcases HLo.out with h | h <;> omega
    have hT1 : hi ≤ T + 1 ∧ T < b + lo := by
      have := HD.out
      rcases HLo.out with h | h <;> omega
    have hbn : b ≤ n ∧ n < 1000000 := HB.out.1
    go_wp2_with fail
    go_loopw [20, 21] (fun x y wr => ∃ (s t : Nat), x = .int .i64 (s : Int) ∧ y = .int .i64 (t : Int) ∧ s ≤ t ∧ lo ≤ s ∧ t ≤ hi ∧ Hid ((s = lo ∨ kAt L (s - 1) ≤ kAt L (T - (s - 1))) ∧ (t = hi ∨ kAt L (T - t) < kAt L t) ∧ Same w wr)) (fun x y _ => (intOf y).toNat - (intOf x).toNat)
    case atStart => exact ⟨lo, hi, rfl, rfl, hlh.1, Nat.le_refl _, Nat.le_refl _, Lib.hid ⟨.inl rfl, .inl rfl, Only.refl _ _⟩⟩
    case round =>
      obtain ⟨s, t, rfl, rfl, hst, hs, ht, HI⟩ := hrel
      by_cases hlt : s < t
      · as_aux_lemma =>
        have hlt' : (s : Int) < (t : Int) := by omega
        obtain ⟨v, hv⟩ : ∃ u, s + t = u := ⟨_, rfl⟩
        obtain ⟨c, hc⟩ : ∃ c, v / 2 = c := ⟨_, rfl⟩
        obtain ⟨d, hd⟩ : ∃ d, T - c = d := ⟨_, rfl⟩
        have q1 : (s : Int) + (t : Int) = (v : Int) := by omega
        have q2 : (v : Int) / 2 = (c : Int) := by omega
        have q3 : (T : Int) - (c : Int) = (d : Int) := by omega
        have q4 := i64_nat (k := v) (by omega)
        have q5 := u64_nat (k := v) (by omega)
        have q6 := i64_nat (k := c) (by omega)
        have q7 := i64_nat (k := d) (by omega)
        have hcs : s ≤ c ∧ c < t := by omega
        have HC0 := Lib.hid hd
        have c0 : (0 : Int) ≤ (c : Int) := by omega
        have cn : (c : Int) < (n : Int) := by omega
        have d0 : (0 : Int) ≤ (d : Int) := by omega
        have dn : (d : Int) < (n : Int) := by omega
        obtain ⟨⟨k1, t1⟩, hx⟩ : ∃ x, L[d]? = some x := ⟨_, List.getElem?_eq_getElem (by have := HB.out; omega)⟩
        obtain ⟨⟨k2, t2⟩, hy⟩ : ∃ x, L[c]? = some x := ⟨_, List.getElem?_eq_getElem (by have := HB.out; omega)⟩
        have hS := Mi.s4 (OS.still HM.out HI.out.2.2) hx hy
        have HK := Lib.hid (And.intro (kAt_eq hx) (kAt_eq hy))
        have HC : Hid (∀ wx, S4 g d c k1 t1 k2 t2 wx → Calls Try.prog 10 #[itb k1 t1, itb k2 t2] wx fun e w' => e = .returned (.int .i64 (ordZ k1 k2)) ∧ S4 g d c k1 t1 k2 t2 w' ∧ Same wx w') := Lib.hid (fun wx h => cmp4 g d c k1 t1 k2 t2 wx h)
        obtain ⟨s1, s2, s3, s4⟩ := hS
        replace s1 : wr.cell? ⟨g, d * 2, none⟩ = some (.int .i64 k1) := s1
        replace s2 : wr.cell? ⟨g, d * 2 + 1, none⟩ = some (.int .i64 t1) := s2
        replace s3 : wr.cell? ⟨g, c * 2, none⟩ = some (.int .i64 k2) := s3
        replace s4 : wr.cell? ⟨g, c * 2 + 1, none⟩ = some (.int .i64 t2) := s4
        clear hx hy hv hc hd
        go_wp2_with fail
        go_region_held3 (fun w' => w'.cell? ⟨g, d * 2, none⟩ = some (.int .i64 k1) ∧ w'.cell? ⟨g, d * 2 + 1, none⟩ = some (.int .i64 t1) ∧ w'.cell? ⟨g, c * 2, none⟩ = some (.int .i64 k2) ∧ w'.cell? ⟨g, c * 2 + 1, none⟩ = some (.int .i64 t2)) (go_keep)
          (first | (go_at_call 10; refine (HC.out _ ⟨?_, ?_, ?_, ?_⟩).mono ?_; (simp [*]); (simp [*]); (simp [*]); (simp [*]); rintro e w4 ⟨rfl, ⟨r1, r2, r3, r4⟩, hs4⟩))
        have HS4 : Hid (Same w w4) := Lib.hid (HI.out.2.2.trans (Only.undrew hs4))
        clear hs4 HC r1 r2 r3 r4 s1 s2 s3 s4
        by_cases hcmp : k1 < k2
        · have HN : Hid ((s = lo ∨ kAt L (s - 1) ≤ kAt L (T - (s - 1))) ∧ (c = hi ∨ kAt L (T - c) < kAt L c) ∧ Same w w4) := Lib.hid ⟨HI.out.1, .inr (by rw [HC0.out, HK.out.1, HK.out.2]; exact hcmp), HS4.out⟩
          rw [ord_neg hcmp]
          clear hcmp HI HS4 HK
          go_wp2_with fail
          go_roundw
          case rel => exact ⟨s, c, rfl, rfl, by omega, by omega, by omega, HN⟩
          case measure => simp [intOf]; omega
        · have HN : Hid ((c + 1 = lo ∨ kAt L (c + 1 - 1) ≤ kAt L (T - (c + 1 - 1))) ∧ (t = hi ∨ kAt L (T - t) < kAt L t) ∧ Same w w4) := Lib.hid ⟨.inr (by rw [Nat.add_sub_cancel, HC0.out, HK.out.1, HK.out.2]; show k2 ≤ k1; omega), HI.out.2.1, HS4.out⟩
          have hge2 : decide (ordZ k1 k2 < 0) = false := decide_eq_false (by rw [ord_lt]; exact hcmp)
          clear hcmp HI HS4 HK
          rw [hge2]
          go_wp2_with fail
          go_roundw
          case rel => exact ⟨c + 1, t, by go_num, rfl, by omega, by omega, by omega, HN⟩
          case measure => simp [intOf]; omega
      · as_aux_lemma =>
        have hlt' : ¬ (s : Int) < (t : Int) := by omega
        have : s = t := by omega
        subst this
        obtain ⟨en, hen⟩ : ∃ c, N - s = c := ⟨_, rfl⟩
        have HPT : Hid (Parts a m b mid s L (rotL L s m en) ∧ s ≤ m ∧ m ≤ en ∧ en ≤ b ∧ s ≤ mid ∧ mid ≤ en ∧ a ≤ s) := Lib.hid (by
          have := HD.out
          have hen2 : mid + m - s = en := by omega
          have hp : Parts a m b mid s L (rotL L s m (mid + m - s)) := by
            refine sym_parts (lo := lo) (hi := hi) HS.out.1 HS.out.2 (by omega) (by omega) (by have := HB.out; omega) (by omega) HLo.out hs ht ?_ ?_
            · rcases HI.out.1 with h1 | h1
              · exact .inl h1
              · by_cases hst0 : s = lo
                · exact .inl hst0
                · right
                  rw [show mid + m - s = T - (s - 1) by omega]; exact h1
            · rcases HI.out.2.1 with h2 | h2
              · exact .inl h2
              · right
                rw [show mid + m - 1 - s = T - s by omega]; exact h2
          rw [hen2] at hp
          have := hp.le
          exact ⟨hp, by omega⟩)
        have r5 : (N : Int) - (s : Int) = (en : Int) := by have := HPT.out.2; have := HD.out; omega
        have r6 := i64_nat (k := en) (by have := HPT.out.2; omega)
        have HSW := Lib.hid HI.out.2.2
        have hle := HPT.out.2
        clear hen HI hlt hst hs ht
        obtain ⟨w1, hw1⟩ : ∃ w1, w1 = wr := ⟨_, rfl⟩
        rw [← hw1] at HSW ⊢
        clear hw1
        obtain ⟨F, HFE⟩ : ∃ F, Hid (rotL L s m en = F) := ⟨_, Lib.hid rfl⟩
        rw [HFE.out] at HPT
        have HE2 : Hid (mid + m - s = en) := Lib.hid (by have := HD.out; omega)
        go_upto_region 39 with fail
        go_cut [185] (fun x wx => ∃ t : Bool, x = .bool t ∧ wx = w1 ∧ Hid (t = true ↔ s < m ∧ m < en))
        case first => as_aux_lemma =>
          by_cases g1 : s < m
          · have g1' : (s : Int) < (m : Int) := by omega
            have hd : Hid (decide (m < en) = true ↔ s < m ∧ m < en) := Lib.hid (by rw [decide_eq_true_iff]; omega)
            clear g1
            go_wp2_with fail
            go_meet
            exact ⟨_, rfl, rfl, hd⟩
          · have g1' : ¬ (s : Int) < (m : Int) := by omega
            have hd : Hid (false = true ↔ s < m ∧ m < en) := Lib.hid ⟨fun h => (nomatch h), fun h => absurd h.1 g1⟩
            clear g1
            go_wp2_with fail
            go_meet
            exact ⟨_, rfl, rfl, hd⟩
        case rest => as_aux_lemma =>
          obtain ⟨t, rfl, hw, HT⟩ := hcut
          rw [hw]
          clear hw
          go_upto_if 185 with fail
          go_cut [24] (fun x wx => x = .int .i64 (en : Int) ∧ Hid (Half g n cap F w wx))
          case first => as_aux_lemma =>
            cases t with
            | false =>
              have HF : Hid (Half g n cap F w w1) := Lib.hid (by
                have hn : ¬ (s < m ∧ m < en) := fun h => by have := HT.out.2 h; cases this
                have := rotL_id (L := L) (s := s) (m := m) (e := en) (by omega) (by omega) (by have := HB.out; omega) (by omega)
                rw [HFE.out] at this
                rw [this]
                exact ⟨OS.still HM.out HSW.out, HSW.out.mono (fun _ _ f => f.elim)⟩)
              go_wp2_with fail
              go_meet
              exact ⟨rfl, HF⟩
            | true =>
              have hg := HT.out.1 rfl
              have HR : Hid (Calls Try.prog 28 #[.slice (some ⟨g, 0, none⟩) n cap, .int .i64 (s : Int), .int .i64 (m : Int), .int .i64 (en : Int), cmpV] w1 (RtQ F g n cap w1)) := Lib.hid (by
                have := rotate s m en g n cap cmpV L w1 (OS.still HM.out HSW.out) hg.1 hg.2 (by omega) hbn.2
                rwa [HFE.out] at this)
              clear hg HT
              go_wp2_with (go_at_call 28; with_reducible refine HR.out.mono ?_)
              rintro e w2 h3
              obtain ⟨rfl, hr2, hO2⟩ : e = .returned (.tuple #[]) ∧ Mi w2 g n cap F ∧ Only (At (some ⟨g, 0, none⟩)) w1 w2 := h3
              have HF : Hid (Half g n cap F w w2) := Lib.hid ⟨hr2, Only.trans (S := At (some ⟨g, 0, none⟩)) (HSW.out.mono (fun _ _ f => f.elim)) hO2 (fun _ _ f => f)⟩
              clear hr2 hO2 HR
              go_wp2_with fail
              go_meet
              exact ⟨rfl, HF⟩
          case rest => as_aux_lemma =>
            obtain ⟨rfl, H1⟩ := hcut
            clear HT
            obtain ⟨w2, hw2⟩ : ∃ w2, w2 = wc := ⟨_, rfl⟩
            rw [← hw2] at H1 ⊢
            clear hw2 HSW
            go_upto_region 41 with fail
            go_cut [199] (fun x wx => ∃ t : Bool, x = .bool t ∧ wx = w2 ∧ Hid (t = true ↔ a < s ∧ s < mid))
            case first => as_aux_lemma =>
              by_cases g1 : a < s
              · have g1' : (a : Int) < (s : Int) := by omega
                have hd : Hid (decide (s < mid) = true ↔ a < s ∧ s < mid) := Lib.hid (by rw [decide_eq_true_iff]; omega)
                clear g1
                go_wp2_with fail
                go_meet
                exact ⟨_, rfl, rfl, hd⟩
              · have g1' : ¬ (a : Int) < (s : Int) := by omega
                have hd : Hid (false = true ↔ a < s ∧ s < mid) := Lib.hid ⟨fun h => (nomatch h), fun h => absurd h.1 g1⟩
                clear g1
                go_wp2_with fail
                go_meet
                exact ⟨_, rfl, rfl, hd⟩
            case rest => as_aux_lemma =>
              obtain ⟨t, rfl, hw, HT⟩ := hcut
              rw [hw]
              clear hw
              go_upto_if 199 with fail
              go_cut [24] (fun x wx => x = .int .i64 (en : Int) ∧ Hid (∃ F1, Mv a mid F F1 ∧ Srt a mid F1 ∧ Half g n cap F1 w wx))
              case first => as_aux_lemma =>
                cases t with
                | false =>
                  have HF : Hid (∃ F1, Mv a mid F F1 ∧ Srt a mid F1 ∧ Half g n cap F1 w w2) := Lib.hid (by
                    have hn : ¬ (a < s ∧ s < mid) := fun h => by have := HT.out.2 h; cases this
                    refine ⟨F, Mv.refl _ _ _, ?_, H1.out⟩
                    by_cases c : s = a
                    · have := HPT.out.1.s2; rw [c] at this; exact this
                    · have c2 : s = mid := by omega
                      have := HPT.out.1.s1; rw [c2] at this; exact this)
                  go_wp2_with fail
                  go_meet
                  exact ⟨rfl, HF⟩
                | true =>
                  have hg := HT.out.1 rfl
                  have HR1 : Hid (Calls Try.prog 20 #[.slice (some ⟨g, 0, none⟩) n cap, .int .i64 (a : Int), .int .i64 (s : Int), .int .i64 (mid : Int), cmpV] w2 (InP a mid g n cap F w2)) := Lib.hid (HIH.out a s mid F w2 (by omega) H1.out.1 HPT.out.1.s1 HPT.out.1.s2 hg.1 hg.2 (by omega))
                  clear hg HT
                  go_wp2_with (go_at_call 20; with_reducible refine HR1.out.mono ?_)
                  rintro e w3 h3
                  obtain ⟨rfl, F1, mv1, so1, hr3, hO3⟩ : e = .returned (.tuple #[]) ∧ ∃ L', Mv a mid F L' ∧ Srt a mid L' ∧ Mi w3 g n cap L' ∧ Only (At (some ⟨g, 0, none⟩)) w2 w3 := h3
                  have HF : Hid (∃ F1, Mv a mid F F1 ∧ Srt a mid F1 ∧ Half g n cap F1 w w3) := Lib.hid ⟨F1, mv1, so1, hr3, H1.out.2.trans hO3 (fun _ _ f => f)⟩
                  clear mv1 so1 hr3 hO3 HR1
                  go_wp2_with fail
                  go_meet
                  exact ⟨rfl, HF⟩
              case rest => as_aux_lemma =>
                obtain ⟨rfl, H2⟩ := hcut
                clear H1 HT
                obtain ⟨w3, hw3⟩ : ∃ w3, w3 = wc := ⟨_, rfl⟩
                rw [← hw3] at H2 ⊢
                clear hw3
                go_upto_region 43 with fail
                go_cut [213] (fun x wx => ∃ t : Bool, x = .bool t ∧ wx = w3 ∧ Hid (t = true ↔ mid < en ∧ en < b))
                case first => as_aux_lemma =>
                  by_cases g1 : mid < en
                  · have g1' : (mid : Int) < (en : Int) := by omega
                    have hd : Hid (decide (en < b) = true ↔ mid < en ∧ en < b) := Lib.hid (by rw [decide_eq_true_iff]; omega)
                    clear g1
                    go_wp2_with fail
                    go_meet
                    exact ⟨_, rfl, rfl, hd⟩
                  · have g1' : ¬ (mid : Int) < (en : Int) := by omega
                    have hd : Hid (false = true ↔ mid < en ∧ en < b) := Lib.hid ⟨fun h => (nomatch h), fun h => absurd h.1 g1⟩
                    clear g1
                    go_wp2_with fail
                    go_meet
                    exact ⟨_, rfl, rfl, hd⟩
                case rest => as_aux_lemma =>
                  obtain ⟨t, rfl, hw, HT⟩ := hcut
                  rw [hw]
                  clear hw
                  cases t with
                  | false =>
                    have HF : Hid (∃ L', Mv a b L L' ∧ Srt a b L' ∧ Mi w3 g n cap L' ∧ Only (At (some ⟨g, 0, none⟩)) w w3) := Lib.hid (by
                      have hn : ¬ (mid < en ∧ en < b) := fun h => by have := HT.out.2 h; cases this
                      obtain ⟨F1, hF1⟩ := H2.out
                      refine ⟨F1, HPT.out.1.mv.trans (hF1.1.wide (Nat.le_refl _) (by omega)), sym_join HPT.out.1.cross hF1.1 hF1.2.1 (Mv.refl _ _ _) ?_, hF1.2.2⟩
                      by_cases c : en = mid
                      · have := HPT.out.1.s4.keep (L' := F1) (fun i h1 h2 => hF1.1.out i (by omega))
                        have he := HE2.out
                        rw [he, c] at this; exact this
                      · have c2 : en = b := by omega
                        have := HPT.out.1.s3.keep (L' := F1) (fun i h1 h2 => hF1.1.out i (by omega))
                        have he := HE2.out
                        rw [he, c2] at this; exact this)
                    go_wp2_with fail
                    go_end0
                    exact ⟨rfl, HF.out⟩
                  | true =>
                    have hg := HT.out.1 rfl
                    obtain ⟨F1, hF1⟩ := H2.out
                    have HF1 := Lib.hid hF1
                    have HR2 : Hid (Calls Try.prog 20 #[.slice (some ⟨g, 0, none⟩) n cap, .int .i64 (mid : Int), .int .i64 (en : Int), .int .i64 (b : Int), cmpV] w3 (InP mid b g n cap F1 w3)) := Lib.hid (HIH.out mid en b F1 w3 (by omega) hF1.2.2.1
                      (by have := HPT.out.1.s3.keep (L' := F1) (fun i h1 h2 => hF1.1.out i (by omega)); rwa [HE2.out] at this)
                      (by have := HPT.out.1.s4.keep (L' := F1) (fun i h1 h2 => hF1.1.out i (by have := HE2.out; omega)); rwa [HE2.out] at this) hg.1 hg.2 hbn.1)
                    clear hF1 hg HT
                    go_wp2_with (go_at_call 20; with_reducible refine HR2.out.mono ?_)
                    rintro e w4 h3
                    obtain ⟨rfl, F2, mv2, so2, hr4, hO4⟩ : e = .returned (.tuple #[]) ∧ ∃ L', Mv mid b F1 L' ∧ Srt mid b L' ∧ Mi w4 g n cap L' ∧ Only (At (some ⟨g, 0, none⟩)) w3 w4 := h3
                    have HF : Hid (∃ L', Mv a b L L' ∧ Srt a b L' ∧ Mi w4 g n cap L' ∧ Only (At (some ⟨g, 0, none⟩)) w w4) := Lib.hid
                      ⟨F2, (HPT.out.1.mv.trans (HF1.out.1.wide (Nat.le_refl _) (by omega))).trans (mv2.wide (by omega) (Nat.le_refl _)), sym_join HPT.out.1.cross HF1.out.1 HF1.out.2.1 mv2 so2, hr4, HF1.out.2.2.2.trans hO4 (fun _ _ f => f)⟩
                    clear mv2 so2 hr4 hO4 HR2
                    go_wp2_with fail
                    go_end0
                    exact ⟨rfl, HF.out⟩

theorem smMerge : ∀ (d a m b g n cap : Nat) (L : List It) (w : World), b - a ≤ d → Mi w g n cap L → Srt a m L → Srt m b L → a < m → m < b → b ≤ n → n < 1000000 →
    Calls Try.prog 20 #[.slice (some ⟨g, 0, none⟩) n cap, .int .i64 (a : Int), .int .i64 (m : Int), .int .i64 (b : Int), cmpV] w (InP a b g n cap L w)
  | 0, a, m, b, g, n, cap, L, w, hd, h, hs1, hs2, ha, hb, hn, hsz => absurd hd (by omega)
  | d + 1, a, m, b, g, n, cap, L, w, hd, h, hs1, hs2, ha, hb, hn, hsz => by
    by_cases k1 : a + 1 = m
    · exact smA a m b g n cap L w h k1 hb hn hsz hs2
    by_cases k2 : m + 1 = b
    · exact smB a m b g n cap L w h (by omega) k2 hn hsz hs1
    exact smStep a m b g n cap L w (fun a' m' b' L' w' h1 h2 h3 h4 h5 h6 h7 => smMerge d a' m' b' g n cap L' w' (by omega) h2 h3 h4 h5 h6 h7 hsz) h hs1 hs2 (by omega) (by omega) hn hsz
end Go.Proofs.Ytceonnacpakjhaa.mg

/-
  slices: the stable sort of a list of structs.
-/
import Derived.Test.YtceonnacpakjhaaMgCmp
namespace Go.Proofs.Ytceonnacpakjhaa.mg
open Go.RowKit Go.Proofs.Ytceonnacpakjhaa.base Go.Proofs.Ytceonnacpakjhaa.heap Go.Proofs.Ytceonnacpakjhaa.rows Go.Proofs.Ytceonnacpakjhaa.pq
set_option linter.unusedVariables false

/-- the blocks of t places are sorted -/
def Blk (t n : Nat) (L : List It) : Prop := ∀ k, Srt (k * t) (min (k * t + t) n) L
/-- those ahead of a are -/
def Don (t a : Nat) (L : List It) : Prop := ∃ k, a = k * t ∧ ∀ j, j < k → Srt (j * t) (j * t + t) L
/-- those from a on are -/
def Rst (s a n : Nat) (L : List It) : Prop := ∀ j, a ≤ j * s → Srt (j * s) (min (j * s + s) n) L
section
variable {s t a n : Nat} {L L' : List It}
theorem Don.start (t : Nat) (L : List It) : Don t 0 L := ⟨0, by simp, fun j h => by omega⟩
theorem mul_lt {j k t : Nat} (h : j < k) : j * t + t ≤ k * t := by
  have : (j + 1) * t ≤ k * t := Nat.mul_le_mul_right t h
  rwa [Nat.add_mul, Nat.one_mul] at this
theorem Don.step (h : Don t a L) (hs : Srt a (a + t) L') (hm : Mv a (a + t) L L') : Don t (a + t) L' := by
  obtain ⟨k, rfl, hk⟩ := h
  refine ⟨k + 1, by rw [Nat.add_mul, Nat.one_mul], fun j hj => ?_⟩
  by_cases c : j < k
  · have := mul_lt (t := t) c
    exact (hk j c).keep (fun i h1 h2 => hm.out i (by omega))
  · have : j = k := by omega
    subst this; exact hs
theorem Don.last (h : Don t a L) (ha : a ≤ n) (hn : n ≤ a + t) (hs : Srt a n L') (hm : Mv a n L L') : Blk t n L' := by
  obtain ⟨k, rfl, hk⟩ := h
  intro j
  by_cases c : j < k
  · have := mul_lt (t := t) c
    rw [Nat.min_eq_left (by omega)]
    exact (hk j c).keep (fun i h1 h2 => hm.out i (by omega))
  · by_cases c2 : j = k
    · subst c2
      rw [Nat.min_eq_right (by omega)]; exact hs
    · have := mul_lt (t := t) (show k < j by omega)
      exact Srt.none (by omega) _
theorem Rst.start (h : Blk s n L) : Rst s 0 n L := fun j _ => h j
theorem Rst.step {b : Nat} (h : Rst s a n L) (hab : a ≤ b) (hm : Mv a b L L') : Rst s b n L' := fun j hj =>
  (h j (by omega)).keep (fun i h1 h2 => hm.out i (by omega))
theorem Rst.two {k : Nat} (h : Rst s a n L) (ha : a = k * (2 * s)) : Srt a (min (a + s) n) L ∧ Srt (a + s) (min (a + 2 * s) n) L := by
  have e1 : (2 * k) * s = a := by rw [ha, Nat.mul_comm 2 k, Nat.mul_assoc]
  have e2 : (2 * k + 1) * s = a + s := by rw [Nat.add_mul, Nat.one_mul, e1]
  have h1 := h (2 * k) (by omega)
  have h2 := h (2 * k + 1) (by omega)
  rw [e1] at h1
  rw [e2] at h2
  exact ⟨h1, by rwa [show a + 2 * s = a + s + s by omega]⟩
theorem Rst.two' (h : Rst s a n L) (hd : Don (2 * s) a L') : Srt a (min (a + s) n) L ∧ Srt (a + s) (min (a + 2 * s) n) L := by
  obtain ⟨k, hk, _⟩ := hd
  exact h.two hk
theorem Blk.all (h : Blk s n L) (hn : n ≤ s) : Srt 0 n L := by
  have := h 0
  rw [Nat.zero_mul, Nat.min_eq_right (by omega)] at this
  exact this
end

/-- what the list is in the course of it -/
def Lst (P : List It → Prop) (g n cap : Nat) (L : List It) (w wx : World) : Prop := ∃ L', Mv 0 n L L' ∧ P L' ∧ Mi wx g n cap L' ∧ Only (At (some ⟨g, 0, none⟩)) w wx

set_option maxRecDepth 100000 in
set_option maxHeartbeats 6400000 in
theorem stable (g n cap : Nat) (L : List It) (w : World) (h : Mi w g n cap L) (hsz : n < 100000) :
    Calls Try.prog 14 #[.slice (some ⟨g, 0, none⟩) n cap, .int .i64 (n : Int), cmpV] w (InP 0 n g n cap L w) := by
  have hbd := h.bound
  have hl := h.2
  have HM := Lib.hid h
  have HL := Lib.hid hl
  clear h hl
  go_enter Try.func14, Try.ntmps14
  go_wp2_with fail
  go_loopw [7, 8] (fun x y wx => ∃ (a b : Nat), x = .int .i64 (a : Int) ∧ y = .int .i64 (b : Int) ∧ a ≤ n ∧ Hid (b = a + 20) ∧ Hid (Lst (Don 20 a) g n cap L w wx)) (fun x _ _ => n + 20 - (intOf x).toNat)
  case atStart => exact ⟨0, 20, rfl, rfl, Nat.zero_le _, Lib.hid rfl, Lib.hid ⟨L, Mv.refl _ _ _, Don.start _ _, HM.out, Only.refl _ _⟩⟩
  case round =>
    obtain ⟨a, b, rfl, rfl, han, Hb, HI⟩ := hrel
    obtain ⟨L', h1, h2, h3, h4⟩ := HI.out
    have HP := Lib.hid (And.intro (And.intro h1 h2) (And.intro h3 h4))
    clear h1 h2 h3 h4 HI
    by_cases hbn : b ≤ n
    · as_aux_lemma =>
      have hbn' : (b : Int) ≤ (n : Int) := by omega
      have HC := Lib.hid (insertion a b g n cap L' wr HP.out.2.1 (by have := Hb.out; omega) hbn (by omega))
      obtain ⟨c, hc⟩ : ∃ c, b + 20 = c := ⟨_, rfl⟩
      have e1 : (b : Int) + 20 = (c : Int) := by omega
      have e2 := i64_nat (k := c) (by omega)
      have Hc := Lib.hid hc
      clear hc hbn
      go_wp2_with (go_at_call 19; with_reducible refine HC.out.mono ?_)
      rintro e w1 h3
      obtain ⟨rfl, L2, mv2, so2, hr2, hO2⟩ : e = .returned (.tuple #[]) ∧ ∃ L2, Mv a b L' L2 ∧ Srt a b L2 ∧ Mi w1 g n cap L2 ∧ Only (At (some ⟨g, 0, none⟩)) wr w1 := h3
      have HN : Hid (Lst (Don 20 b) g n cap L w w1) := Lib.hid (by
        have hb := Hb.out
        subst hb
        exact ⟨L2, HP.out.1.1.trans (mv2.wide (Nat.zero_le _) (by omega)), HP.out.1.2.step so2 mv2, hr2, HP.out.2.2.trans hO2 (fun _ _ f => f)⟩)
      clear mv2 so2 hr2 hO2 HC
      go_wp2_with fail
      have hb2 := Hb.out
      go_roundw
      case rel => exact ⟨b, c, rfl, rfl, by omega, Lib.hid (Eq.symm Hc.out), HN⟩
      case measure => simp [intOf]; omega
    · as_aux_lemma =>
      have hbn' : ¬ (b : Int) ≤ (n : Int) := by omega
      have HC := Lib.hid (insertion a n g n cap L' wr HP.out.2.1 han (Nat.le_refl _) (by omega))
      have hab : n ≤ a + 20 := by have := Hb.out; omega
      clear hbn
      go_wp2_with (go_at_call 19; with_reducible refine HC.out.mono ?_)
      rintro e w1 h3
      obtain ⟨rfl, L2, mv2, so2, hr2, hO2⟩ : e = .returned (.tuple #[]) ∧ ∃ L2, Mv a n L' L2 ∧ Srt a n L2 ∧ Mi w1 g n cap L2 ∧ Only (At (some ⟨g, 0, none⟩)) wr w1 := h3
      have HN : Hid (Lst (Blk 20 n) g n cap L w w1) := Lib.hid ⟨L2, HP.out.1.1.trans (mv2.wide (Nat.zero_le _) (by omega)), HP.out.1.2.last han hab so2 mv2, hr2, HP.out.2.2.trans hO2 (fun _ _ f => f)⟩
      clear mv2 so2 hr2 hO2 HC HP Hb hab
      go_wp2_with fail
      go_loopw [6, 7, 8] (fun z x y wx => ∃ (s : Nat), z = .int .i64 (s : Int) ∧ 20 ≤ s ∧ s ≤ 1000000 ∧ Hid (Lst (Blk s n) g n cap L w wx)) (fun z _ _ _ => n - (intOf z).toNat)
      case atStart => exact ⟨20, rfl, Nat.le_refl _, by omega, HN⟩
      case round =>
        clear HN
        obtain ⟨s, rfl, hs20, hsm, HI⟩ := hrel
        by_cases hsn : s < n
        · have hsn' : (s : Int) < (n : Int) := by omega
          obtain ⟨t, ht⟩ : ∃ t, 2 * s = t := ⟨_, rfl⟩
          have t1 : 2 * (s : Int) = (t : Int) := by omega
          have t2 : (s : Int) * 2 = (t : Int) := by omega
          have t3 := i64_nat (k := t) (by omega)
          have HT := Lib.hid ht
          have htb : t ≤ 200000 := by omega
          clear ht
          go_wp2_with fail
          go_loopw [7, 8] (fun x y wx => ∃ (a b : Nat), x = .int .i64 (a : Int) ∧ y = .int .i64 (b : Int) ∧ a ≤ n ∧ Hid (b = a + t) ∧ Hid (Lst (fun F => Don t a F ∧ Rst s a n F) g n cap L w wx)) (fun x _ _ => n + t - (intOf x).toNat)
          case atStart => exact ⟨0, t, rfl, rfl, Nat.zero_le _, Lib.hid (by omega), Lib.hid (by
            obtain ⟨L', h1, h2, h3, h4⟩ := HI.out
            exact ⟨L', h1, ⟨Don.start _ _, Rst.start h2⟩, h3, h4⟩)⟩
          case round =>
            clear HI
            obtain ⟨a, b, rfl, rfl, han, Hb, HJ⟩ := hrel
            obtain ⟨L', h1, h2, h3, h4⟩ := HJ.out
            have HP := Lib.hid (And.intro (And.intro h1 h2) (And.intro h3 h4))
            obtain ⟨p, hp⟩ : ∃ p, a + s = p := ⟨_, rfl⟩
            have p1 : (a : Int) + (s : Int) = (p : Int) := by omega
            have p2 := i64_nat (k := p) (by omega)
            have Hp := Lib.hid hp
            clear h1 h2 h3 h4 HJ hp
            by_cases hbn : b ≤ n
            · as_aux_lemma =>
              have hbn' : (b : Int) ≤ (n : Int) := by omega
              have hss : Srt a p L' ∧ Srt p b L' := by
                have h := HP.out.1.2.2.two' (by have := HP.out.1.2.1; rwa [← HT.out] at this)
                have e := Hp.out
                have e2 := HT.out
                have e3 := Hb.out
                rw [Nat.min_eq_left (by omega), Nat.min_eq_left (by omega), e, show a + 2 * s = b by omega] at h
                exact h
              have HC := Lib.hid (smMerge (b - a) a p b g n cap L' wr (Nat.le_refl _) HP.out.2.1 hss.1 hss.2 (by have := Hp.out; omega) (by have := Hp.out; have := Hb.out; have := HT.out; omega) hbn (by omega))
              obtain ⟨c, hc⟩ : ∃ c, b + t = c := ⟨_, rfl⟩
              have e1 : (b : Int) + (t : Int) = (c : Int) := by omega
              have e2 := i64_nat (k := c) (by omega)
              have Hc := Lib.hid hc
              clear hc hbn hss
              go_wp2_with (go_at_call 20; with_reducible refine HC.out.mono ?_)
              rintro e w1 h3
              obtain ⟨rfl, L2, mv2, so2, hr2, hO2⟩ : e = .returned (.tuple #[]) ∧ ∃ L2, Mv a b L' L2 ∧ Srt a b L2 ∧ Mi w1 g n cap L2 ∧ Only (At (some ⟨g, 0, none⟩)) wr w1 := h3
              have HN : Hid (Lst (fun F => Don t b F ∧ Rst s b n F) g n cap L w w1) := Lib.hid (by
                have hb := Hb.out
                refine ⟨L2, HP.out.1.1.trans (mv2.wide (Nat.zero_le _) (by omega)), ⟨?_, HP.out.1.2.2.step (by omega) mv2⟩, hr2, HP.out.2.2.trans hO2 (fun _ _ f => f)⟩
                subst hb
                exact HP.out.1.2.1.step so2 mv2)
              clear mv2 so2 hr2 hO2 HC
              go_wp2_with fail
              have hb2 := Hb.out
              have ht2 := HT.out
              go_roundw
              case rel => exact ⟨b, c, rfl, rfl, by omega, Lib.hid (Eq.symm Hc.out), HN⟩
              case measure => simp [intOf]; omega
            · have hbn' : ¬ (b : Int) ≤ (n : Int) := by omega
              have htm : t ≤ 1000000 := by omega
              have hst : s < t := by have := HT.out; omega
              by_cases hpn : p < n
              · as_aux_lemma =>
                have hpn' : (p : Int) < (n : Int) := by omega
                have hss : Srt a p L' ∧ Srt p n L' := by
                  have h := HP.out.1.2.2.two' (by have := HP.out.1.2.1; rwa [← HT.out] at this)
                  have e := Hp.out
                  have e2 := HT.out
                  have e3 := Hb.out
                  rw [Nat.min_eq_left (by omega), Nat.min_eq_right (by omega), e] at h
                  exact h
                have HC := Lib.hid (smMerge (n - a) a p n g n cap L' wr (Nat.le_refl _) HP.out.2.1 hss.1 hss.2 (by have := Hp.out; omega) hpn (Nat.le_refl _) (by omega))
                have hab : n ≤ a + t := by have := Hb.out; omega
                clear hbn hpn hss
                go_wp2_with (go_at_call 20; with_reducible refine HC.out.mono ?_)
                rintro e w1 h3
                obtain ⟨rfl, L2, mv2, so2, hr2, hO2⟩ : e = .returned (.tuple #[]) ∧ ∃ L2, Mv a n L' L2 ∧ Srt a n L2 ∧ Mi w1 g n cap L2 ∧ Only (At (some ⟨g, 0, none⟩)) wr w1 := h3
                have HN : Hid (Lst (Blk t n) g n cap L w w1) := Lib.hid ⟨L2, HP.out.1.1.trans (mv2.wide (Nat.zero_le _) (by omega)), HP.out.1.2.1.last han hab so2 mv2, hr2, HP.out.2.2.trans hO2 (fun _ _ f => f)⟩
                clear mv2 so2 hr2 hO2 HC
                go_wp2_with fail
                go_roundw
                case rel => exact ⟨t, rfl, by omega, htm, HN⟩
                case measure => simp [intOf]; omega
              · as_aux_lemma =>
                have hpn' : ¬ (p : Int) < (n : Int) := by omega
                have hab : n ≤ a + t := by have := Hb.out; omega
                have HN : Hid (Lst (Blk t n) g n cap L w wr) := Lib.hid (by
                  have h := HP.out.1.2.2.two' (by have := HP.out.1.2.1; rwa [← HT.out] at this)
                  have e := Hp.out
                  rw [Nat.min_eq_right (by omega)] at h
                  exact ⟨L', HP.out.1.1, HP.out.1.2.1.last han hab h.1 (Mv.refl _ _ _), HP.out.2.1, HP.out.2.2⟩)
                clear hbn hpn
                go_wp2_with fail
                go_roundw
                case rel => exact ⟨t, rfl, by omega, htm, HN⟩
                case measure => simp [intOf]; omega
        · have hsn' : ¬ (s : Int) < (n : Int) := by omega
          have HF : Hid (∃ L', Mv 0 n L L' ∧ Srt 0 n L' ∧ Mi wr g n cap L' ∧ Only (At (some ⟨g, 0, none⟩)) w wr) := Lib.hid (by
            obtain ⟨L', h1, h2, h3, h4⟩ := HI.out
            exact ⟨L', h1, h2.all (by omega), h3, h4⟩)
          clear hsn HI
          go_wp2_with fail
          go_end0
          exact ⟨rfl, HF.out⟩
end Go.Proofs.Ytceonnacpakjhaa.mg

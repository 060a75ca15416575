/-
  slices: exchanging ranges of a list of structs, turning ranges round.
-/
import Derived.Test.YtceonnacpakjhaaMgImpl
namespace Go.Proofs.Ytceonnacpakjhaa.mg
open Go.RowKit Go.Proofs.Ytceonnacpakjhaa.base Go.Proofs.Ytceonnacpakjhaa.heap Go.Proofs.Ytceonnacpakjhaa.rows Go.Proofs.Ytceonnacpakjhaa.pq
set_option linter.unusedVariables false

/-- a row of structs of the call's own -/
abbrev Mi (w : World) (g n cap : Nat) (L : List It) : Prop := OS 25 itc 2 w (some ⟨g, 0, none⟩) n cap L
section
variable {w w' : World} {g n cap : Nat} {L : List It}
theorem Mi.cell (h : Mi w g n cap L) {i : Nat} {x : It} (hx : L[i]? = some x) : w.cell? ⟨g, i * 2, none⟩ = some (.int .i64 x.key) ∧ w.cell? ⟨g, i * 2 + 1, none⟩ = some (.int .i64 x.tag) := by
  obtain ⟨b, off, ha, hb, hc⟩ := h.rs.at itc_len (by have := h.2; have := (List.getElem?_eq_some_iff.1 hx).1; omega)
  simp only [Option.some.injEq, Addr.mk.injEq] at ha
  obtain ⟨rfl, rfl, _⟩ := ha
  have h0 := hc i x hx 0 _ rfl
  have h1 := hc i x hx 1 _ rfl
  rw [Nat.zero_add] at h0 h1
  exact ⟨h0, h1⟩
theorem flat_set : ∀ (L : List It) (i : Nat) (x : It), i < L.length → ((L.flatMap itc).set (i * 2) (.int .i64 x.key)).set (i * 2 + 1) (.int .i64 x.tag) = (L.set i x).flatMap itc
  | [], i, x, h => by simp at h
  | y :: L, 0, x, h => by simp [itc]
  | y :: L, i + 1, x, h => by
    have := flat_set L i x (by simpa using h)
    rw [List.set_cons_succ, List.flatMap_cons, List.flatMap_cons, ← this]
    rw [show (i + 1) * 2 = i * 2 + 1 + 1 by omega]
    simp [itc]
theorem Mi.put (h : Mi w g n cap L) {i : Nat} (x : It) (hi : i < n) :
    Mi ((w.setCell ⟨g, i * 2, none⟩ (.int .i64 x.key)).setCell ⟨g, i * 2 + 1, none⟩ (.int .i64 x.tag)) g n cap (L.set i x) := by
  refine ⟨?_, by rw [List.length_set]; exact h.2⟩
  have := (h.1.set rfl (i * 2) (.int .i64 x.key) rfl (by omega)).set rfl (i * 2 + 1) (.int .i64 x.tag) rfl (by omega)
  rwa [flat_set L i x (by rw [h.2]; exact hi)] at this
/-- the world behind an exchange -/
def exW (w : World) (g i j : Nat) (x y : It) : World :=
  (((w.setCell ⟨g, i * 2, none⟩ (.int .i64 y.key)).setCell ⟨g, i * 2 + 1, none⟩ (.int .i64 y.tag)).setCell ⟨g, j * 2, none⟩ (.int .i64 x.key)).setCell ⟨g, j * 2 + 1, none⟩ (.int .i64 x.tag)
theorem Mi.swap (h : Mi w g n cap L) {i j : Nat} {x y : It} (hx : L[i]? = some x) (hy : L[j]? = some y) :
    Mi (exW w g i j x y) g n cap (swapL L i j) ∧ Only (At (some ⟨g, 0, none⟩)) w (exW w g i j x y) := by
  have hi := (List.getElem?_eq_some_iff.1 hx).1
  have hj := (List.getElem?_eq_some_iff.1 hy).1
  have hl := h.2
  refine ⟨?_, ((((Only.refl (At (some ⟨g, 0, none⟩)) w).setCell ⟨g, i * 2, none⟩ _ (fun _ => rfl)).setCell ⟨g, i * 2 + 1, none⟩ _ (fun _ => rfl)).setCell ⟨g, j * 2, none⟩ _ (fun _ => rfl)).setCell ⟨g, j * 2 + 1, none⟩ _ (fun _ => rfl)⟩
  have := (h.put y (i := i) (by omega)).put x (i := j) (by omega)
  unfold swapL
  rw [show L.getD j ⟨0, 0⟩ = y by simp [List.getD_eq_getElem?_getD, hy], show L.getD i ⟨0, 0⟩ = x by simp [List.getD_eq_getElem?_getD, hx]]
  exact this
end
/-- what comes of an exchange of ranges -/
def SwQ (a b k : Nat) (g n cap : Nat) (L : List It) (w : World) (e : Ending) (w' : World) : Prop :=
  e = .returned (.tuple #[]) ∧ ∃ L', Swn a b k L L' ∧ Mv a (b + k) L L' ∧ Mi w' g n cap L' ∧ Only (At (some ⟨g, 0, none⟩)) w w'

set_option maxRecDepth 100000 in
set_option maxHeartbeats 1600000 in
theorem swapRange (a b k g n cap : Nat) (F : Value) (L : List It) (w : World) (h : Mi w g n cap L) (hab : a + k ≤ b) (hn : b + k ≤ n) (hsz : n < 1000000) :
    Calls Try.prog 30 #[.slice (some ⟨g, 0, none⟩) n cap, .int .i64 (a : Int), .int .i64 (b : Int), .int .i64 (k : Int), F] w (SwQ a b k g n cap L w) := by
  have hbd := h.bound
  have hl := h.2
  have HM := Lib.hid h
  clear h
  go_enter Try.func30, Try.ntmps30
  go_wp2_with fail
  go_loopw [10] (fun i wr => ∃ (j : Nat), j ≤ k ∧ i = .int .i64 (j : Int) ∧ Hid (∃ L', Swn a b j L L' ∧ Mv a (b + k) L L' ∧ Mi wr g n cap L' ∧ Only (At (some ⟨g, 0, none⟩)) w wr)) (fun i _ => k - (intOf i).toNat)
  case atStart => exact ⟨0, Nat.zero_le _, rfl, Lib.hid ⟨L, Swn.zero _ _ _, Mv.refl _ _ _, HM.out, Only.refl _ _⟩⟩
  case round =>
    obtain ⟨j, hj, rfl, HI⟩ := hrel
    by_cases hlt : j < k
    · have hlt' : (j : Int) < (k : Int) := by omega
      obtain ⟨L', hs, hm, hr, hO⟩ := HI.out
      have hll : L'.length = n := by rw [hm.len, hl]
      obtain ⟨x, hx⟩ : ∃ x, L'[a + j]? = some x := ⟨_, List.getElem?_eq_getElem (by omega)⟩
      obtain ⟨y, hy⟩ : ∃ y, L'[b + j]? = some y := ⟨_, List.getElem?_eq_getElem (by omega)⟩
      obtain ⟨c0, c1⟩ := hr.cell hx
      obtain ⟨c2, c3⟩ := hr.cell hy
      have fr : ∀ i, wr.frozen? ⟨g, i, none⟩ = false := fun i => hr.1.frozen rfl i
      have HN : Hid (∀ w', w' = exW wr g (a + j) (b + j) x y → ∃ L', Swn a b (j + 1) L L' ∧ Mv a (b + k) L L' ∧ Mi w'.drew g n cap L' ∧ Only (At (some ⟨g, 0, none⟩)) w w'.drew) := Lib.hid (by
        rintro w' rfl
        have h2 := hr.swap hx hy
        exact ⟨_, hs.step (n := k) hab hlt (by omega), hm.trans (Mv.swap (by omega) (by omega) (by omega)), ⟨h2.1.1.drew, h2.1.2⟩, (hO.trans h2.2 (fun _ _ f => f)).drew⟩)
      obtain ⟨p, hp⟩ : ∃ p, a + j = p := ⟨_, rfl⟩
      obtain ⟨q, hq⟩ : ∃ q, b + j = q := ⟨_, rfl⟩
      rw [hp] at c0 c1 HN
      rw [hq] at c2 c3 HN
      have f0 := fr (p * 2)
      have f1 := fr (p * 2 + 1)
      have f2 := fr (q * 2)
      have f3 := fr (q * 2 + 1)
      have e1 : (a : Int) + (j : Int) = (p : Int) := by omega
      have e2 : (b : Int) + (j : Int) = (q : Int) := by omega
      have e3 := i64_nat (k := p) (by omega)
      have e4 := i64_nat (k := q) (by omega)
      have p0 : (0 : Int) ≤ (p : Int) := by omega
      have q0 : (0 : Int) ≤ (q : Int) := by omega
      have pn : (p : Int) < (n : Int) := by omega
      have qn : (q : Int) < (n : Int) := by omega
      obtain ⟨k1, t1⟩ := x
      obtain ⟨k2, t2⟩ := y
      clear hx hy hs hm hr hO fr hp hq
      go_wp2_with fail
      go_region
      all_goals go_wp2
      all_goals (go_roundw; (case rel => exact ⟨j + 1, by omega, by go_num, Lib.hid (HN.out _ rfl)⟩); (case measure => simp [intOf]; omega))
    · have hlt' : ¬ (j : Int) < (k : Int) := by omega
      have : j = k := by omega
      subst this
      go_wp2_with fail
      go_end0
      exact ⟨rfl, HI.out⟩
theorem swq_mono {a b k g n cap : Nat} {L : List It} {w : World} {e : Ending} {w' : World} (h : SwQ a b k g n cap L w e w') : e = .returned (.tuple #[]) ∧ ∃ L', Swn a b k L L' ∧ Mv a (b + k) L L' ∧ Mi w' g n cap L' ∧ Only (At (some ⟨g, 0, none⟩)) w w' := h
/-- what comes of turning two neighbouring ranges round -/
def RtQ (F : List It) (g n cap : Nat) (w : World) (e : Ending) (w' : World) : Prop :=
  e = .returned (.tuple #[]) ∧ Mi w' g n cap F ∧ Only (At (some ⟨g, 0, none⟩)) w w'

set_option maxRecDepth 100000 in
set_option maxHeartbeats 3200000 in
theorem rotate2 (s m e' i j g n cap : Nat) (V : Value) (L F : List It) (w : World) (h : Mi w g n cap L) (hR : Rot m i j L F) (hsm : s + i = m) (hme : m + j = e') (hn : e' ≤ n) (hsz : n < 1000000) (hi : 0 < i) (hj : 0 < j) :
    Calls Try.prog 28 #[.slice (some ⟨g, 0, none⟩) n cap, .int .i64 (s : Int), .int .i64 (m : Int), .int .i64 (e' : Int), V] w (RtQ F g n cap w) := by
  have hbd := h.bound
  have e1 : (m : Int) - (s : Int) = (i : Int) := by omega
  have e2 : (e' : Int) - (m : Int) = (j : Int) := by omega
  have e3 := i64_nat (k := i) (by omega)
  have e4 := i64_nat (k := j) (by omega)
  have e5 : (s : Int) + (i : Int) = (m : Int) := by omega
  have e6 := i64_nat (k := m) (by omega)
  have HM := Lib.hid h
  have HR := Lib.hid hR
  have hl := h.2
  have hme1 : m + j ≤ e' := by omega
  have hsm1 : s + i ≤ m := by omega
  clear h hR hsm hme
  go_enter Try.func28, Try.ntmps28
  go_wp2_with fail
  go_loopw [10, 11] (fun s8 s9 wr => ∃ (i j : Nat), s8 = .int .i64 (i : Int) ∧ s9 = .int .i64 (j : Int) ∧ 0 < i ∧ 0 < j ∧ s + i ≤ m ∧ m + j ≤ e' ∧ Hid (∃ Lc, Rot m i j Lc F ∧ Lc.length = n ∧ Mi wr g n cap Lc ∧ Only (At (some ⟨g, 0, none⟩)) w wr)) (fun i j _ => (intOf i).toNat + (intOf j).toNat)
  case atStart => exact ⟨i, j, rfl, rfl, hi, hj, hsm1, hme1, Lib.hid ⟨L, HR.out, hl, HM.out, Only.refl _ _⟩⟩
  case round =>
    clear e1 e2 e3 e4 e5 hi hj HR HM hl hme1 hsm1
    obtain ⟨x, y, rfl, rfl, hx0, hy0, hxm, hym, HI⟩ := hrel
    obtain ⟨px, hpx⟩ : ∃ p, m - x = p := ⟨_, rfl⟩
    have e1 : (m : Int) - (x : Int) = (px : Int) := by omega
    have e3 := i64_nat (k := px) (by omega)
    by_cases h2 : x = y
    · subst h2
      have HSW : Hid (∃ Lc, Rot m x x Lc F ∧ Lc.length = n ∧ Only (At (some ⟨g, 0, none⟩)) w wr ∧ Calls Try.prog 30 #[.slice (some ⟨g, 0, none⟩) n cap, .int .i64 (px : Int), .int .i64 (m : Int), .int .i64 (x : Int), V] wr (SwQ px m x g n cap Lc wr)) := Lib.hid (by
        obtain ⟨Lc, h1, h2, h3, h4⟩ := HI.out
        exact ⟨Lc, h1, h2, h4, swapRange px m x g n cap V Lc wr h3 (by omega) (by omega) hsz⟩)
      obtain ⟨Lc, HC⟩ := HSW.out
      have HC := Lib.hid HC
      have Hpx := Lib.hid hpx
      have Hb := Lib.hid (And.intro hxm hym)
      clear HI HSW hpx hxm hym hx0 hy0
      go_wp2_with (go_at_call 30; with_reducible refine HC.out.2.2.2.mono ?_)
      rintro e w1 h3
      obtain ⟨rfl, L', hs, hm, hr, hO⟩ := swq_mono h3
      go_wp2_with fail
      go_end0
      exact ⟨rfl, by rw [← HC.out.1.eq (L' := L') (by have := Hb.out; omega) (by rw [Hpx.out]; exact hs)]; exact hr, HC.out.2.2.1.trans hO (fun _ _ f => f)⟩
    · have h2' : ¬ (x : Int) = (y : Int) := by omega
      by_cases h3 : y < x
      · have h3' : (y : Int) < (x : Int) := by omega
        obtain ⟨d, hd⟩ : ∃ d, x - y = d := ⟨_, rfl⟩
        have e7 : (x : Int) - (y : Int) = (d : Int) := by omega
        have e8 := i64_nat (k := d) (by omega)
        have HSW : Hid (∃ Lc, Rot m x y Lc F ∧ Lc.length = n ∧ Only (At (some ⟨g, 0, none⟩)) w wr ∧ Calls Try.prog 30 #[.slice (some ⟨g, 0, none⟩) n cap, .int .i64 (px : Int), .int .i64 (m : Int), .int .i64 (y : Int), V] wr (SwQ px m y g n cap Lc wr)) := Lib.hid (by
          obtain ⟨Lc, h1, h2, h3, h4⟩ := HI.out
          exact ⟨Lc, h1, h2, h4, swapRange px m y g n cap V Lc wr h3 (by omega) (by omega) hsz⟩)
        obtain ⟨Lc, HC⟩ := HSW.out
        have HC := Lib.hid HC
        have hpd := Lib.hid (And.intro hpx hd)
        have Hb := Lib.hid (And.intro (And.intro hxm hym) (And.intro (And.intro hx0 hy0) h3))
        clear HI HSW hpx hd hxm hym hx0 hy0 h3 h2
        go_wp2_with (go_at_call 30; with_reducible refine HC.out.2.2.2.mono ?_)
        rintro e w1 h3
        obtain ⟨rfl, L', hs, hm, hr, hO⟩ := swq_mono h3
        have HN : Hid (∃ Lc, Rot m d y Lc F ∧ Lc.length = n ∧ Mi w1 g n cap Lc ∧ Only (At (some ⟨g, 0, none⟩)) w w1) := Lib.hid
          ⟨L', by rw [← hpd.out.2]; exact HC.out.1.gt Hb.out.2.2 (by have := Hb.out; omega) (by rw [hpd.out.1]; exact hs), by rw [hm.len]; exact HC.out.2.1, hr, HC.out.2.2.1.trans hO (fun _ _ f => f)⟩
        clear hs hm hr hO HC
        go_wp2_with fail
        have hd2 := hpd.out.2
        have hb := Hb.out
        go_roundw
        case rel => exact ⟨d, y, rfl, rfl, by omega, by omega, by omega, by omega, HN⟩
        case measure => simp [intOf]; omega
      · have h3' : ¬ (y : Int) < (x : Int) := by omega
        obtain ⟨d, hd⟩ : ∃ d, y - x = d := ⟨_, rfl⟩
        obtain ⟨q, hq⟩ : ∃ d, m + y = d := ⟨_, rfl⟩
        obtain ⟨r, hr⟩ : ∃ d, q - x = d := ⟨_, rfl⟩
        have e7 : (y : Int) - (x : Int) = (d : Int) := by omega
        have e8 := i64_nat (k := d) (by omega)
        have e9 : (m : Int) + (y : Int) = (q : Int) := by omega
        have e10 := i64_nat (k := q) (by omega)
        have e11 : (q : Int) - (x : Int) = (r : Int) := by omega
        have e12 := i64_nat (k := r) (by omega)
        have HSW : Hid (∃ Lc, Rot m x y Lc F ∧ Lc.length = n ∧ Only (At (some ⟨g, 0, none⟩)) w wr ∧ Calls Try.prog 30 #[.slice (some ⟨g, 0, none⟩) n cap, .int .i64 (px : Int), .int .i64 (r : Int), .int .i64 (x : Int), V] wr (SwQ px r x g n cap Lc wr)) := Lib.hid (by
          obtain ⟨Lc, h1, h2, h3, h4⟩ := HI.out
          exact ⟨Lc, h1, h2, h4, swapRange px r x g n cap V Lc wr h3 (by omega) (by omega) hsz⟩)
        obtain ⟨Lc, HC⟩ := HSW.out
        have HC := Lib.hid HC
        have hpd := Lib.hid (And.intro (And.intro hpx hd) (And.intro hq hr))
        have Hb := Lib.hid (And.intro (And.intro hxm hym) (And.intro (And.intro hx0 hy0) (And.intro h2 h3)))
        clear HI HSW hpx hd hxm hym hx0 hy0 h3 h2 hq hr
        go_wp2_with (go_at_call 30; with_reducible refine HC.out.2.2.2.mono ?_)
        rintro e w1 h3
        obtain ⟨rfl, L', hs, hm, hr, hO⟩ := swq_mono h3
        have HN : Hid (∃ Lc, Rot m x d Lc F ∧ Lc.length = n ∧ Mi w1 g n cap Lc ∧ Only (At (some ⟨g, 0, none⟩)) w w1) := Lib.hid
          ⟨L', by rw [← hpd.out.1.2]; exact HC.out.1.lt (by have := Hb.out; omega) (by have := Hb.out; omega) (by rw [hpd.out.1.1, hpd.out.2.1, hpd.out.2.2]; exact hs), by rw [hm.len]; exact HC.out.2.1, hr, HC.out.2.2.1.trans hO (fun _ _ f => f)⟩
        clear hs hm hr hO HC
        go_wp2_with fail
        have hd2 := hpd.out.1.2
        have hb := Hb.out
        go_roundw
        case rel => exact ⟨x, d, rfl, rfl, by omega, by omega, by omega, by omega, HN⟩
        case measure => simp [intOf]; omega

theorem rotate (s m e' g n cap : Nat) (V : Value) (L : List It) (w : World) (h : Mi w g n cap L) (hsm : s < m) (hme : m < e') (hn : e' ≤ n) (hsz : n < 1000000) :
    Calls Try.prog 28 #[.slice (some ⟨g, 0, none⟩) n cap, .int .i64 (s : Int), .int .i64 (m : Int), .int .i64 (e' : Int), V] w (RtQ (rotL L s m e') g n cap w) := by
  have hl := h.2
  have hR := Rot.start (L := L) (Nat.le_of_lt hsm) (Nat.le_of_lt hme) (by omega)
  exact rotate2 s m e' (m - s) (e' - m) g n cap V L _ w h hR (by omega) (by omega) hn hsz (by omega) (by omega)
end Go.Proofs.Ytceonnacpakjhaa.mg

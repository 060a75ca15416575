/-
  Merging: the elements behind the interface (order, Compare), rows of them, and the exchange of two ranges.
-/
import Derived.Test.YtceonnacpakjhaaBase
import Derived.Test.YtceonnacpakjhaaRw
import Derived.Test.YtceonnacpakjhaaSt
import Derived.Test.YtceonnacpakjhaaMgPlain
import Derived.Outline
import Derived.RegionTactic
import Derived.BigRegion
import Derived.ChangeAlike
import Derived.Deep.RegionHeld3
import Derived.WalkLawsBesides
namespace Go.Proofs.Ytceonnacpakjhaa.mg
open Go.RowKit Go.Proofs.Ytceonnacpakjhaa.base Go.Proofs.Ytceonnacpakjhaa.heap Go.Proofs.Ytceonnacpakjhaa.rows Go.Proofs.Ytceonnacpakjhaa.pq
set_option linter.unusedVariables false

/-- an element behind the interface type -/
abbrev iw (k t : Int) : Value := .iface 40 (.agg #[.int .i64 k, .int .i64 t])
def itv (x : It) : Value := iw x.key x.tag
def ordZ (a b : Int) : Int := if a < b then -1 else if b < a then 1 else 0

set_option maxRecDepth 100000 in
theorem order_any (a b : Int) (w : World) : Calls Try.prog 47 #[.int .i64 a, .int .i64 b] w fun e w' => e = .returned (.int .i64 (ordZ a b)) ∧ w' = w := by
  unfold ordZ
  by_cases h1 : a < b
  · rw [if_pos h1]
    go_enter Try.func47, Try.ntmps47
    go_wp2
    go_ret
    exact ⟨rfl, rfl⟩
  · by_cases h2 : b < a
    · rw [if_neg h1, if_pos h2]
      go_enter Try.func47, Try.ntmps47
      go_wp2
      go_ret
      exact ⟨rfl, rfl⟩
    · rw [if_neg h1, if_neg h2]
      go_enter Try.func47, Try.ntmps47
      go_wp2
      go_ret
      exact ⟨rfl, rfl⟩

abbrev itb (k t : Int) : Value := .agg #[.int .i64 k, .int .i64 t]
theorem asserted (k t : Int) (w : World) : (Instr.typeAssert (iw k t) 38 40 false).run Try.prog w = .ok (itb k t) w := by
  simp [Instr.typeAssert, run_underlying Try.underlying40, Result.andThen]
theorem run_f1 (k t : Int) (w : World) : (Instr.field 40 (itb k t) 0).run Try.prog w = .ok (.agg #[.int .i64 k, .int .i64 t]) w := rfl
theorem run_f2 (k t : Int) (w : World) : (Instr.field 25 (.agg #[.int .i64 k, .int .i64 t]) 0).run Try.prog w = .ok (.int .i64 k) w := rfl

set_option maxRecDepth 100000 in
theorem compare_any (k t k' t' : Int) (w : World) : Calls Try.prog 46 #[itb k t, iw k' t'] w fun e w' => e = .returned (.int .i64 (ordZ k k')) ∧ Same w w' := by
  have HO : ∀ wx, Calls Try.prog 47 #[.int .i64 k, .int .i64 k'] wx fun e w' => e = .returned (.int .i64 (ordZ k k')) ∧ w' = wx := fun wx => order_any k k' wx
  have HO := Lib.hid HO
  have ha := asserted k' t'
  have h1 := run_f1 k' t'
  have h2 := run_f2 k' t'
  go_enter Try.func46, Try.ntmps46
  go_wp2
  go_quiet ((go_at_call 47; exact Calls.quiet_of_same (HO.out _)))
  go_wp2
  go_ret
  exact ⟨rfl, ((Only.refl _ _).alloc _).drewN _⟩

/-- a row of elements behind the interface, of the call's own -/
abbrev Me (w : World) (a : Option Addr) (n cap : Nat) (L : List It) : Prop := OL 38 itv w a n cap L
section
variable {w w' : World} {g n cap : Nat} {L : List It}
theorem Me.cell (h : Me w (some ⟨g, 0, none⟩) n cap L) {i : Nat} {x : It} (hx : L[i]? = some x) : w.cell? ⟨g, i, none⟩ = some (itv x) := by
  obtain ⟨b, off, ha, hb, hc⟩ := h.rl.at (by have := h.2; have := (List.getElem?_eq_some_iff.1 hx).1; omega)
  simp only [Option.some.injEq, Addr.mk.injEq] at ha
  obtain ⟨rfl, rfl, _⟩ := ha
  have := hc i x hx
  rwa [Nat.zero_add] at this
theorem Me.lt (h : Me w (some ⟨g, 0, none⟩) n cap L) : g < w.heap.size := h.1.lt g rfl
theorem Me.swap (h : Me w (some ⟨g, 0, none⟩) n cap L) {i j : Nat} {x y : It} (hx : L[i]? = some x) (hy : L[j]? = some y) :
    Me (((w.setCell ⟨g, i, none⟩ (itv y)).setCell ⟨g, j, none⟩ (itv x)).drew) (some ⟨g, 0, none⟩) n cap (swapL L i j) ∧ Only (At (some ⟨g, 0, none⟩)) w (((w.setCell ⟨g, i, none⟩ (itv y)).setCell ⟨g, j, none⟩ (itv x)).drew) := by
  have hi := (List.getElem?_eq_some_iff.1 hx).1
  have hj := (List.getElem?_eq_some_iff.1 hy).1
  have hl := h.2
  refine ⟨⟨?_, by rw [swapL_len]; exact h.2⟩, ((((Only.refl (At (some ⟨g, 0, none⟩)) w).setCell ⟨g, i, none⟩ _ (fun _ => rfl)).setCell ⟨g, j, none⟩ _ (fun _ => rfl))).drew⟩
  have h2 := ((h.1.set rfl i (itv y) rfl (by omega)).set rfl j (itv x) rfl (by omega)).drew
  have e : (swapL L i j).map itv = ((L.map itv).set i (itv y)).set j (itv x) := by
    unfold swapL
    rw [List.map_set, List.map_set]
    simp [List.getD_eq_getElem?_getD, hx, hy]
  rw [e]
  exact h2
end
/-- what comes of an exchange of ranges -/
def SwP (a b k : Nat) (g n cap : Nat) (L : List It) (w : World) (e : Ending) (w' : World) : Prop :=
  e = .returned (.tuple #[]) ∧ ∃ L', Swn a b k L L' ∧ Mv a (b + k) L L' ∧ Me w' (some ⟨g, 0, none⟩) n cap L' ∧ Only (At (some ⟨g, 0, none⟩)) w w'
theorem i64_nat {k : Nat} (h : k ≤ 9223372036854775807) : IntKind.i64.wrap (k : Int) = (k : Int) := IntWalk.i64_in _ (by omega)

set_option maxRecDepth 100000 in
set_option maxHeartbeats 1600000 in
theorem symSwap (a b k g n cap : Nat) (L : List It) (w : World) (h : Me w (some ⟨g, 0, none⟩) n cap L) (hab : a + k ≤ b) (hn : b + k ≤ n) :
    Calls Try.prog 29 #[.slice (some ⟨g, 0, none⟩) n cap, .int .i64 (a : Int), .int .i64 (b : Int), .int .i64 (k : Int)] w (SwP a b k g n cap L w) := by
  have hbd := h.bound
  have hl := h.2
  have HM := Lib.hid h
  clear h
  go_enter Try.func29, Try.ntmps29
  go_wp2_with fail
  go_loopw [8] (fun i wr => ∃ (j : Nat), j ≤ k ∧ i = .int .i64 (j : Int) ∧ Hid (∃ L', Swn a b j L L' ∧ Mv a (b + k) L L' ∧ Me wr (some ⟨g, 0, none⟩) n cap L' ∧ Only (At (some ⟨g, 0, none⟩)) w wr)) (fun i _ => k - (intOf i).toNat)
  case atStart => exact ⟨0, Nat.zero_le _, rfl, Lib.hid ⟨L, Swn.zero _ _ _, Mv.refl _ _ _, HM.out, Only.refl _ _⟩⟩
  case round =>
    obtain ⟨j, hj, rfl, HI⟩ := hrel
    by_cases hlt : j < k
    · have hlt' : (j : Int) < (k : Int) := by omega
      obtain ⟨L', hs, hm, hr, hO⟩ := HI.out
      have hll : L'.length = n := by rw [hm.len, hl]
      obtain ⟨x, hx⟩ : ∃ x, L'[a + j]? = some x := ⟨_, List.getElem?_eq_getElem (by omega)⟩
      obtain ⟨y, hy⟩ : ∃ y, L'[b + j]? = some y := ⟨_, List.getElem?_eq_getElem (by omega)⟩
      have c0 := hr.cell hx
      have c1 := hr.cell hy
      have fr : ∀ i, wr.frozen? ⟨g, i, none⟩ = false := fun i => hr.1.frozen rfl i
      have f0 := fr (a + j)
      have f1 := fr (b + j)
      have HN : Hid (∀ w', w' = ((wr.setCell ⟨g, a + j, none⟩ (itv y)).setCell ⟨g, b + j, none⟩ (itv x)).drew → ∃ L', Swn a b (j + 1) L L' ∧ Mv a (b + k) L L' ∧ Me w' (some ⟨g, 0, none⟩) n cap L' ∧ Only (At (some ⟨g, 0, none⟩)) w w') := Lib.hid (by
        rintro w' rfl
        have h2 := hr.swap hx hy
        exact ⟨_, hs.step (n := k) hab hlt (by omega), hm.trans (Mv.swap (by omega) (by omega) (by omega)), h2.1, hO.trans h2.2 (fun _ _ f => f)⟩)
      obtain ⟨p, hp⟩ : ∃ p, a + j = p := ⟨_, rfl⟩
      obtain ⟨q, hq⟩ : ∃ q, b + j = q := ⟨_, rfl⟩
      rw [hp] at c0 f0 HN
      rw [hq] at c1 f1 HN
      have e1 : (a : Int) + (j : Int) = (p : Int) := by omega
      have e2 : (b : Int) + (j : Int) = (q : Int) := by omega
      have e3 := i64_nat (k := p) (by omega)
      have e4 := i64_nat (k := q) (by omega)
      have p0 : (0 : Int) ≤ (p : Int) := by omega
      have q0 : (0 : Int) ≤ (q : Int) := by omega
      have pn : (p : Int) < (n : Int) := by omega
      have qn : (q : Int) < (n : Int) := by omega
      obtain ⟨k1, t1⟩ := x
      obtain ⟨k2, t2⟩ := y
      replace c0 : wr.cell? ⟨g, p, none⟩ = some (iw k1 t1) := c0
      replace c1 : wr.cell? ⟨g, q, none⟩ = some (iw k2 t2) := c1
      obtain ⟨v', hy2⟩ := cell?_setCell_some (w := wr) (p := ⟨g, p, none⟩) (x := iw k2 t2) (q := ⟨g, q, none⟩) (v := iw k2 t2) c1
      clear hx hy hs hm hr hO fr hp hq
      go_wp2_with fail
      go_region
      all_goals go_wp2
      all_goals (go_roundw; (case rel => exact ⟨j + 1, by omega, by go_num, Lib.hid (HN.out _ rfl)⟩); (case measure => simp [intOf]; omega))
    · have hlt' : ¬ (j : Int) < (k : Int) := by omega
      have : j = k := by omega
      subst this
      go_wp2_with fail
      go_end0
      exact ⟨rfl, HI.out⟩

theorem swp_mono {a b k g n cap : Nat} {L : List It} {w : World} {e : Ending} {w' : World} (h : SwP a b k g n cap L w e w') : e = .returned (.tuple #[]) ∧ ∃ L', Swn a b k L L' ∧ Mv a (b + k) L L' ∧ Me w' (some ⟨g, 0, none⟩) n cap L' ∧ Only (At (some ⟨g, 0, none⟩)) w w' := h
/-- what comes of turning two neighbouring ranges round -/
def RtP (F : List It) (g n cap : Nat) (w : World) (e : Ending) (w' : World) : Prop :=
  e = .returned (.tuple #[]) ∧ Me w' (some ⟨g, 0, none⟩) n cap F ∧ Only (At (some ⟨g, 0, none⟩)) w w'

set_option maxRecDepth 100000 in
set_option maxHeartbeats 1600000 in
theorem symRotate0 (s m e' i j g n cap : Nat) (L : List It) (w : World) (h : Me w (some ⟨g, 0, none⟩) n cap L) (hsm : s + i = m) (hme : m + j = e') (hn : e' ≤ n) (h0 : i = 0 ∨ j = 0) :
    Calls Try.prog 27 #[.slice (some ⟨g, 0, none⟩) n cap, .int .i64 (s : Int), .int .i64 (m : Int), .int .i64 (e' : Int)] w (RtP L g n cap w) := by
  have hbd := h.bound
  have e1 : (m : Int) - (s : Int) = (i : Int) := by omega
  have e2 : (e' : Int) - (m : Int) = (j : Int) := by omega
  have e3 := i64_nat (k := i) (by omega)
  have e4 := i64_nat (k := j) (by omega)
  have HM := Lib.hid h
  clear h
  by_cases h1 : i = 0
  · have h0' : (i : Int) = 0 := by omega
    clear hsm hme h0 h1
    go_enter Try.func27, Try.ntmps27
    go_wp2_with fail
    go_end0
    exact ⟨rfl, HM.out, Only.refl _ _⟩
  · have h0' : ¬ (i : Int) = 0 := by omega
    have h1' : (j : Int) = 0 := by omega
    clear hsm hme h0 h1
    go_enter Try.func27, Try.ntmps27
    go_wp2_with fail
    go_end0
    exact ⟨rfl, HM.out, Only.refl _ _⟩

set_option maxRecDepth 100000 in
set_option maxHeartbeats 1600000 in
theorem symRotate1 (s m e' i g n cap : Nat) (L F : List It) (w : World) (h : Me w (some ⟨g, 0, none⟩) n cap L) (hR : Rot m i i L F) (hsm : s + i = m) (hme : m + i = e') (hn : e' ≤ n) (h0 : 0 < i) :
    Calls Try.prog 27 #[.slice (some ⟨g, 0, none⟩) n cap, .int .i64 (s : Int), .int .i64 (m : Int), .int .i64 (e' : Int)] w (RtP F g n cap w) := by
  have hbd := h.bound
  have e1 : (m : Int) - (s : Int) = (i : Int) := by omega
  have e2 : (e' : Int) - (m : Int) = (i : Int) := by omega
  have e3 := i64_nat (k := i) (by omega)
  have h0' : ¬ (i : Int) = 0 := by omega
  have HSW : Hid (Calls Try.prog 29 #[.slice (some ⟨g, 0, none⟩) n cap, .int .i64 (s : Int), .int .i64 (m : Int), .int .i64 (i : Int)] w (SwP s m i g n cap L w)) := Lib.hid (symSwap s m i g n cap L w h (by omega) (by omega))
  have HF : Hid (∀ L', Swn s m i L L' → L' = F) := Lib.hid (fun L' h3 => hR.eq (by omega) (by rw [show m - i = s by omega]; exact h3))
  clear h hsm hme hn h0 hR
  go_enter Try.func27, Try.ntmps27
  go_wp2_with (go_at_call 29; with_reducible refine HSW.out.mono ?_)
  rintro e w1 h3
  obtain ⟨rfl, L', hs, hm, hr, hO⟩ := swp_mono h3
  go_wp2_with fail
  go_end0
  exact ⟨rfl, by rw [← HF.out L' hs]; exact hr, hO⟩

set_option maxRecDepth 100000 in
set_option maxHeartbeats 3200000 in
theorem symRotate2 (s m e' i j g n cap : Nat) (L F : List It) (w : World) (h : Me w (some ⟨g, 0, none⟩) n cap L) (hR : Rot m i j L F) (hsm : s + i = m) (hme : m + j = e') (hn : e' ≤ n) (hi : 0 < i) (hj : 0 < j) (hij : i ≠ j) :
    Calls Try.prog 27 #[.slice (some ⟨g, 0, none⟩) n cap, .int .i64 (s : Int), .int .i64 (m : Int), .int .i64 (e' : Int)] w (RtP F g n cap w) := by
  have hbd := h.bound
  have e1 : (m : Int) - (s : Int) = (i : Int) := by omega
  have e2 : (e' : Int) - (m : Int) = (j : Int) := by omega
  have e3 := i64_nat (k := i) (by omega)
  have e4 := i64_nat (k := j) (by omega)
  have e5 : (s : Int) + (i : Int) = (m : Int) := by omega
  have e6 := i64_nat (k := m) (by omega)
  have h0' : ¬ (i : Int) = 0 := by omega
  have h1' : ¬ (j : Int) = 0 := by omega
  have h2' : ¬ (i : Int) = (j : Int) := by omega
  have HM := Lib.hid h
  have HR := Lib.hid hR
  have hl := h.2
  have hme1 : m + j ≤ e' := by omega
  have hsm1 : s + i ≤ m := by omega
  clear h hR hsm hme
  go_enter Try.func27, Try.ntmps27
  go_wp2_with fail
  rw [show ((i : Int) == 0) = false by simpa using h0', show ((j : Int) == 0) = false by simpa using h1', show ((i : Int) == (j : Int)) = false by simpa using h2']
  go_loopw [8, 9] (fun s8 s9 wr => ∃ (i j : Nat), s8 = .int .i64 (i : Int) ∧ s9 = .int .i64 (j : Int) ∧ 0 < i ∧ 0 < j ∧ s + i ≤ m ∧ m + j ≤ e' ∧ Hid (∃ Lc, Rot m i j Lc F ∧ Lc.length = n ∧ Me wr (some ⟨g, 0, none⟩) n cap Lc ∧ Only (At (some ⟨g, 0, none⟩)) w wr)) (fun i j _ => (intOf i).toNat + (intOf j).toNat)
  case atStart => exact ⟨i, j, rfl, rfl, hi, hj, hsm1, hme1, Lib.hid ⟨L, HR.out, hl, HM.out, Only.refl _ _⟩⟩
  case round =>
    clear e1 e2 e3 e4 e5 h0' h1' h2' hi hj HR HM hij hl hme1 hsm1
    obtain ⟨x, y, rfl, rfl, hx0, hy0, hxm, hym, HI⟩ := hrel
    obtain ⟨px, hpx⟩ : ∃ p, m - x = p := ⟨_, rfl⟩
    have e1 : (m : Int) - (x : Int) = (px : Int) := by omega
    have e3 := i64_nat (k := px) (by omega)
    by_cases h2 : x = y
    · subst h2
      have HSW : Hid (∃ Lc, Rot m x x Lc F ∧ Lc.length = n ∧ Only (At (some ⟨g, 0, none⟩)) w wr ∧ Calls Try.prog 29 #[.slice (some ⟨g, 0, none⟩) n cap, .int .i64 (px : Int), .int .i64 (m : Int), .int .i64 (x : Int)] wr (SwP px m x g n cap Lc wr)) := Lib.hid (by
        obtain ⟨Lc, h1, h2, h3, h4⟩ := HI.out
        exact ⟨Lc, h1, h2, h4, symSwap px m x g n cap Lc wr h3 (by omega) (by omega)⟩)
      obtain ⟨Lc, HC⟩ := HSW.out
      have HC := Lib.hid HC
      have Hpx := Lib.hid hpx
      have Hb := Lib.hid (And.intro hxm hym)
      clear HI HSW hpx hxm hym hx0 hy0
      go_wp2_with (go_at_call 29; with_reducible refine HC.out.2.2.2.mono ?_)
      rintro e w1 h3
      obtain ⟨rfl, L', hs, hm, hr, hO⟩ := swp_mono h3
      go_wp2_with fail
      go_end0
      exact ⟨rfl, by rw [← HC.out.1.eq (L' := L') (by have := Hb.out; omega) (by rw [Hpx.out]; exact hs)]; exact hr, HC.out.2.2.1.trans hO (fun _ _ f => f)⟩
    · have h2' : ¬ (x : Int) = (y : Int) := by omega
      by_cases h3 : y < x
      · have h3' : (y : Int) < (x : Int) := by omega
        obtain ⟨d, hd⟩ : ∃ d, x - y = d := ⟨_, rfl⟩
        have e7 : (x : Int) - (y : Int) = (d : Int) := by omega
        have e8 := i64_nat (k := d) (by omega)
        have HSW : Hid (∃ Lc, Rot m x y Lc F ∧ Lc.length = n ∧ Only (At (some ⟨g, 0, none⟩)) w wr ∧ Calls Try.prog 29 #[.slice (some ⟨g, 0, none⟩) n cap, .int .i64 (px : Int), .int .i64 (m : Int), .int .i64 (y : Int)] wr (SwP px m y g n cap Lc wr)) := Lib.hid (by
          obtain ⟨Lc, h1, h2, h3, h4⟩ := HI.out
          exact ⟨Lc, h1, h2, h4, symSwap px m y g n cap Lc wr h3 (by omega) (by omega)⟩)
        obtain ⟨Lc, HC⟩ := HSW.out
        have HC := Lib.hid HC
        have hpd := Lib.hid (And.intro hpx hd)
        have Hb := Lib.hid (And.intro (And.intro hxm hym) (And.intro (And.intro hx0 hy0) h3))
        clear HI HSW hpx hd hxm hym hx0 hy0 h3 h2
        go_wp2_with (go_at_call 29; with_reducible refine HC.out.2.2.2.mono ?_)
        rintro e w1 h3
        obtain ⟨rfl, L', hs, hm, hr, hO⟩ := swp_mono h3
        have HN : Hid (∃ Lc, Rot m d y Lc F ∧ Lc.length = n ∧ Me w1 (some ⟨g, 0, none⟩) n cap Lc ∧ Only (At (some ⟨g, 0, none⟩)) w w1) := Lib.hid
          ⟨L', by rw [← hpd.out.2]; exact HC.out.1.gt Hb.out.2.2 (by have := Hb.out; omega) (by rw [hpd.out.1]; exact hs), by rw [hm.len]; exact HC.out.2.1, hr, HC.out.2.2.1.trans hO (fun _ _ f => f)⟩
        clear hs hm hr hO HC
        go_wp2_with fail
        have hd2 := hpd.out.2
        have hb := Hb.out
        go_roundw
        case rel => exact ⟨d, y, rfl, rfl, by omega, by omega, by omega, by omega, HN⟩
        case measure => simp [intOf]; omega
      · have h3' : ¬ (y : Int) < (x : Int) := by omega
        obtain ⟨d, hd⟩ : ∃ d, y - x = d := ⟨_, rfl⟩
        obtain ⟨q, hq⟩ : ∃ d, m + y = d := ⟨_, rfl⟩
        obtain ⟨r, hr⟩ : ∃ d, q - x = d := ⟨_, rfl⟩
        have e7 : (y : Int) - (x : Int) = (d : Int) := by omega
        have e8 := i64_nat (k := d) (by omega)
        have e9 : (m : Int) + (y : Int) = (q : Int) := by omega
        have e10 := i64_nat (k := q) (by omega)
        have e11 : (q : Int) - (x : Int) = (r : Int) := by omega
        have e12 := i64_nat (k := r) (by omega)
        have HSW : Hid (∃ Lc, Rot m x y Lc F ∧ Lc.length = n ∧ Only (At (some ⟨g, 0, none⟩)) w wr ∧ Calls Try.prog 29 #[.slice (some ⟨g, 0, none⟩) n cap, .int .i64 (px : Int), .int .i64 (r : Int), .int .i64 (x : Int)] wr (SwP px r x g n cap Lc wr)) := Lib.hid (by
          obtain ⟨Lc, h1, h2, h3, h4⟩ := HI.out
          exact ⟨Lc, h1, h2, h4, symSwap px r x g n cap Lc wr h3 (by omega) (by omega)⟩)
        obtain ⟨Lc, HC⟩ := HSW.out
        have HC := Lib.hid HC
        have hpd := Lib.hid (And.intro (And.intro hpx hd) (And.intro hq hr))
        have Hb := Lib.hid (And.intro (And.intro hxm hym) (And.intro (And.intro hx0 hy0) (And.intro h2 h3)))
        clear HI HSW hpx hd hxm hym hx0 hy0 h3 h2 hq hr
        go_wp2_with (go_at_call 29; with_reducible refine HC.out.2.2.2.mono ?_)
        rintro e w1 h3
        obtain ⟨rfl, L', hs, hm, hr, hO⟩ := swp_mono h3
        have HN : Hid (∃ Lc, Rot m x d Lc F ∧ Lc.length = n ∧ Me w1 (some ⟨g, 0, none⟩) n cap Lc ∧ Only (At (some ⟨g, 0, none⟩)) w w1) := Lib.hid
          ⟨L', by rw [← hpd.out.1.2]; exact HC.out.1.lt (by have := Hb.out; omega) (by have := Hb.out; omega) (by rw [hpd.out.1.1, hpd.out.2.1, hpd.out.2.2]; exact hs), by rw [hm.len]; exact HC.out.2.1, hr, HC.out.2.2.1.trans hO (fun _ _ f => f)⟩
        clear hs hm hr hO HC
        go_wp2_with fail
        have hd2 := hpd.out.1.2
        have hb := Hb.out
        go_roundw
        case rel => exact ⟨x, d, rfl, rfl, by omega, by omega, by omega, by omega, HN⟩
        case measure => simp [intOf]; omega

theorem symRotate (s m e' g n cap : Nat) (L : List It) (w : World) (h : Me w (some ⟨g, 0, none⟩) n cap L) (hsm : s ≤ m) (hme : m ≤ e') (hn : e' ≤ n) :
    Calls Try.prog 27 #[.slice (some ⟨g, 0, none⟩) n cap, .int .i64 (s : Int), .int .i64 (m : Int), .int .i64 (e' : Int)] w (RtP (rotL L s m e') g n cap w) := by
  have hl := h.2
  by_cases h0 : m - s = 0 ∨ e' - m = 0
  · have := symRotate0 s m e' (m - s) (e' - m) g n cap L w h (by omega) (by omega) hn h0
    rwa [rotL_id hsm hme (by omega) (by omega)]
  · have hR := Rot.start (L := L) hsm hme (by omega)
    by_cases h1 : m - s = e' - m
    · rw [← h1] at hR
      exact symRotate1 s m e' (m - s) g n cap L _ w h hR (by omega) (by omega) hn (by omega)
    · exact symRotate2 s m e' (m - s) (e' - m) g n cap L _ w h hR (by omega) (by omega) hn (by omega) (by omega) h1
end Go.Proofs.Ytceonnacpakjhaa.mg

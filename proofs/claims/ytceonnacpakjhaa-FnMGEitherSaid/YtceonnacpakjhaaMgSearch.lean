/-
  The two binary searches of the symmetric merge.
-/
import Derived.Test.YtceonnacpakjhaaMgObj
namespace Go.Proofs.Ytceonnacpakjhaa.mg
open Go.RowKit Go.Proofs.Ytceonnacpakjhaa.base Go.Proofs.Ytceonnacpakjhaa.heap Go.Proofs.Ytceonnacpakjhaa.rows Go.Proofs.Ytceonnacpakjhaa.pq
set_option linter.unusedVariables false

theorem methodC (k t : Int) (w : World) : (method 176 40 (Value.agg #[Value.int IntKind.i64 k, Value.int IntKind.i64 t]) "Compare").run Try.prog w = .ok (46, Value.agg #[Value.int IntKind.i64 k, Value.int IntKind.i64 t]) w := by kernel_rfl
theorem nilC (k t : Int) (w : World) : (nilAhead 176 40 (Value.agg #[Value.int IntKind.i64 k, Value.int IntKind.i64 t]) "Compare").run Try.prog w = .ok (some false) w := by kernel_rfl
theorem ord_neg {a b : Int} (h : a < b) : ordZ a b = -1 := by unfold ordZ; rw [if_pos h]
theorem ord_le {a b : Int} (h : a ≤ b) : ordZ a b ≤ 0 := by unfold ordZ; split; omega; split; omega; omega
theorem ord_pos {a b : Int} (h : b < a) : ordZ a b = 1 := by unfold ordZ; rw [if_neg (by omega), if_pos h]
theorem half (n : Nat) : (n : Int).tdiv 2 = ((n / 2 : Nat) : Int) := by
  rw [Int.tdiv_eq_ediv_of_nonneg (by omega)]; omega

/-- the two elements that are compared -/
def S2 (g i g' j : Nat) (x y : It) (w : World) : Prop := w.cell? ⟨g, i, none⟩ = some (iw x.key x.tag) ∧ w.cell? ⟨g', j, none⟩ = some (iw y.key y.tag)
theorem S2.same {g i g' j : Nat} {x y : It} {w w' : World} (h : S2 g i g' j x y w) (hs : Same w w') : S2 g i g' j x y w' := by
  obtain ⟨h2, h3⟩ := h
  exact ⟨(hs.cell (p := ⟨g, i, none⟩) (World.block_lt_of_cell? w _ h2) id).trans h2, (hs.cell (p := ⟨g', j, none⟩) (World.block_lt_of_cell? w _ h3) id).trans h3⟩
theorem cmpS (g i g' j : Nat) (x y : It) (w : World) (h : S2 g i g' j x y w) : Calls Try.prog 46 #[itb x.key x.tag, iw y.key y.tag] w fun e w' => e = .returned (.int .i64 (ordZ x.key y.key)) ∧ S2 g i g' j x y w' ∧ Same w w' :=
  (compare_any x.key x.tag y.key y.tag w).mono fun e w' ⟨he, hs⟩ => ⟨he, h.same hs, hs⟩

/-- what a search between lo and hi leaves: f, what stands on the left, g, what stands on the right -/
def BsP (f k : Nat → Int) (lo hi : Nat) (w : World) (e : Ending) (w' : World) : Prop :=
  ∃ st : Nat, e = .returned (.int .i64 (st : Int)) ∧ (lo ≤ st ∧ st ≤ hi) ∧ (st = lo ∨ f (st - 1) ≤ k (st - 1)) ∧ (st = hi ∨ k st < f st) ∧ Same w w'

set_option maxRecDepth 100000 in
set_option maxHeartbeats 3200000 in
theorem symBinarySearch (lo hi T g n cap : Nat) (L : List It) (w : World) (h : Me w (some ⟨g, 0, none⟩) n cap L) (hlh : lo ≤ hi) (hn : hi ≤ n) (hT : hi ≤ T + 1) (hTn : T < n + lo) (hsz : n < 1000000) :
    Calls Try.prog 26 #[.slice (some ⟨g, 0, none⟩) n cap, .int .i64 (lo : Int), .int .i64 (hi : Int), .int .i64 (T : Int)] w (BsP (fun i => kAt L i) (fun i => kAt L (T - i)) lo hi w) := by
  have hbd := h.bound
  have hl := h.2
  have HM := Lib.hid h
  clear h
  go_enter Try.func26, Try.ntmps26
  go_wp2_with fail
  go_loopw [1, 2] (fun a b wr => ∃ (s t : Nat), a = .int .i64 (s : Int) ∧ b = .int .i64 (t : Int) ∧ s ≤ t ∧ lo ≤ s ∧ t ≤ hi ∧ Hid ((s = lo ∨ kAt L (s - 1) ≤ kAt L (T - (s - 1))) ∧ (t = hi ∨ kAt L (T - t) < kAt L t) ∧ Same w wr)) (fun a b _ => (intOf b).toNat - (intOf a).toNat)
  case atStart => exact ⟨lo, hi, rfl, rfl, hlh, Nat.le_refl _, Nat.le_refl _, Lib.hid ⟨.inl rfl, .inl rfl, Only.refl _ _⟩⟩
  case round =>
    obtain ⟨s, t, rfl, rfl, hst, hs, ht, HI⟩ := hrel
    by_cases hlt : s < t
    · have hlt' : (s : Int) < (t : Int) := by omega
      obtain ⟨u, hu⟩ : ∃ u, s + t = u := ⟨_, rfl⟩
      obtain ⟨c, hc⟩ : ∃ c, u / 2 = c := ⟨_, rfl⟩
      obtain ⟨d, hd⟩ : ∃ d, T - c = d := ⟨_, rfl⟩
      have e1 : (s : Int) + (t : Int) = (u : Int) := by omega
      have e2 : (u : Int).tdiv 2 = (c : Int) := by rw [half, hc]
      have e3 : (T : Int) - (c : Int) = (d : Int) := by omega
      have e4 := i64_nat (k := u) (by omega)
      have e5 := i64_nat (k := d) (by omega)
      have e6 := i64_nat (k := c) (by omega)
      have HC0 := Lib.hid (And.intro hc hd)
      have hcn : c < n := by omega
      have hdn : d < n := by omega
      have hcs : s ≤ c ∧ c < t := by omega
      have hcn' : (c : Int) < (n : Int) := by omega
      have hdn' : (d : Int) < (n : Int) := by omega
      have hc0 : (0 : Int) ≤ (c : Int) := by omega
      have hd0 : (0 : Int) ≤ (d : Int) := by omega
      clear hc hd hu
      have hr := OL.still HM.out HI.out.2.2
      obtain ⟨X, hx⟩ : ∃ x, L[c]? = some x := ⟨_, List.getElem?_eq_getElem (by omega)⟩
      obtain ⟨Y, hy⟩ : ∃ x, L[d]? = some x := ⟨_, List.getElem?_eq_getElem (by omega)⟩
      have c0 := Me.cell hr hx
      have c1 := Me.cell hr hy
      have HK := Lib.hid (And.intro (kAt_eq hx) (kAt_eq hy))
      obtain ⟨k1, t1⟩ := X
      obtain ⟨k2, t2⟩ := Y
      have hS : S2 g c g d ⟨k1, t1⟩ ⟨k2, t2⟩ wr := ⟨c0, c1⟩
      have HC : Hid (∀ wx, S2 g c g d ⟨k1, t1⟩ ⟨k2, t2⟩ wx → Calls Try.prog 46 #[itb k1 t1, iw k2 t2] wx fun e w' => e = .returned (.int .i64 (ordZ k1 k2)) ∧ S2 g c g d ⟨k1, t1⟩ ⟨k2, t2⟩ w' ∧ Same wx w') := Lib.hid (fun wx h => cmpS g c g d ⟨k1, t1⟩ ⟨k2, t2⟩ wx h)
      clear c0 c1 hx hy hr hl
      obtain ⟨s2, s3⟩ := hS
      replace s2 : wr.cell? ⟨g, c, none⟩ = some (iw k1 t1) := s2
      replace s3 : wr.cell? ⟨g, d, none⟩ = some (iw k2 t2) := s3
      have hm := methodC k1 t1
      have hni := nilC k1 t1
      go_wp2_with fail
      go_region_held3 (fun w' => w'.cell? ⟨g, c, none⟩ = some (iw k1 t1) ∧ w'.cell? ⟨g, d, none⟩ = some (iw k2 t2)) (go_keep)
        (first | (go_at_call 46; refine (HC.out _ ⟨?_, ?_⟩).mono ?_; (simp [*]); (simp [*]); rintro e w4 ⟨rfl, ⟨r1, r2⟩, hs4⟩))
      have HS4 := Lib.hid hs4
      have HO4 : Hid (Same w w4) := Lib.hid (HI.out.2.2.trans (Only.undrew HS4.out))
      clear hs4 HS4 r1 r2 s2 s3 HC hm hni
      by_cases hcmp : k1 ≤ k2
      · have HN : Hid ((c + 1 = lo ∨ kAt L (c + 1 - 1) ≤ kAt L (T - (c + 1 - 1))) ∧ (t = hi ∨ kAt L (T - t) < kAt L t) ∧ Same w w4) := Lib.hid ⟨.inr (by
          rw [Nat.add_sub_cancel, HC0.out.2, HK.out.1, HK.out.2]; exact hcmp), HI.out.2.1, HO4.out⟩
        have hle := ord_le hcmp
        clear hcmp HI HO4 HK
        generalize ordZ k1 k2 = oz at *
        go_wp2_with fail
        go_roundw
        case rel => exact ⟨c + 1, t, by go_num, rfl, by omega, by omega, by omega, HN⟩
        case measure => simp [intOf]; omega
      · have HN : Hid ((s = lo ∨ kAt L (s - 1) ≤ kAt L (T - (s - 1))) ∧ (c = hi ∨ kAt L (T - c) < kAt L c) ∧ Same w w4) := Lib.hid ⟨HI.out.1, .inr (by
          rw [HC0.out.2, HK.out.1, HK.out.2]; show k2 < k1; omega), HO4.out⟩
        have hle : ¬ ordZ k1 k2 ≤ 0 := by rw [ord_pos (by omega)]; omega
        clear hcmp HI HO4 HK
        generalize ordZ k1 k2 = oz at *
        go_wp2_with fail
        go_roundw
        case rel => exact ⟨s, c, rfl, rfl, by omega, by omega, by omega, HN⟩
        case measure => simp [intOf]; omega
    · have hlt' : ¬ (s : Int) < (t : Int) := by omega
      have : s = t := by omega
      subst this
      go_wp2_with fail
      go_ret
      exact ⟨s, rfl, ⟨hs, ht⟩, HI.out⟩
theorem rl_cell {g o n cap : Nat} {L : List It} {w : World} (h : RL itv w (some ⟨g, o, none⟩) n cap L) {i : Nat} {x : It} (hx : L[i]? = some x) : w.cell? ⟨g, o + i, none⟩ = some (itv x) := by
  obtain ⟨b, off, ha, hb, hc⟩ := h.at (by have := h.2; have := (List.getElem?_eq_some_iff.1 hx).1; omega)
  simp only [Option.some.injEq, Addr.mk.injEq] at ha
  obtain ⟨rfl, rfl, _⟩ := ha
  exact hc i x hx

set_option maxRecDepth 100000 in
set_option maxHeartbeats 3200000 in
theorem symSearch (g o n cap g' o' cap' : Nat) (L R : List It) (w : World) (h : RL itv w (some ⟨g, o, none⟩) n cap L) (h' : RL itv w (some ⟨g', o', none⟩) n cap' R) (h0 : 0 < n) (hsz : n < 1000000) :
    Calls Try.prog 25 #[.slice (some ⟨g, o, none⟩) n cap, .slice (some ⟨g', o', none⟩) n cap'] w (BsP (fun i => kAt L i) (fun i => kAt R (n - 1 - i)) 0 n w) := by
  have hbd := h.bound
  have hl := h.2
  have hl' := h'.2
  have HM := Lib.hid (And.intro h h')
  obtain ⟨T, hT⟩ : ∃ T, n - 1 = T := ⟨_, rfl⟩
  have eT : (n : Int) - 1 = (T : Int) := by omega
  have eT2 := i64_nat (k := T) (by omega)
  have hTn : T + 1 = n := by omega
  rw [hT]
  clear h h' h0 hT
  go_enter Try.func25, Try.ntmps25
  go_wp2_with fail
  go_loopw [5, 6] (fun a b wr => ∃ (s t : Nat), a = .int .i64 (s : Int) ∧ b = .int .i64 (t : Int) ∧ s ≤ t ∧ t ≤ n ∧ Hid ((s = 0 ∨ kAt L (s - 1) ≤ kAt R (T - (s - 1))) ∧ (t = n ∨ kAt R (T - t) < kAt L t) ∧ Same w wr)) (fun a b _ => (intOf b).toNat - (intOf a).toNat)
  case atStart => exact ⟨0, n, rfl, rfl, Nat.zero_le _, Nat.le_refl _, Lib.hid ⟨.inl rfl, .inl rfl, Only.refl _ _⟩⟩
  case round =>
    obtain ⟨s, t, rfl, rfl, hst, ht, HI⟩ := hrel
    by_cases hlt : s < t
    · have hlt' : (s : Int) < (t : Int) := by omega
      obtain ⟨u, hu⟩ : ∃ u, s + t = u := ⟨_, rfl⟩
      obtain ⟨c, hc⟩ : ∃ c, u / 2 = c := ⟨_, rfl⟩
      obtain ⟨d, hd⟩ : ∃ d, T - c = d := ⟨_, rfl⟩
      have e1 : (s : Int) + (t : Int) = (u : Int) := by omega
      have e2 : (u : Int).tdiv 2 = (c : Int) := by rw [half, hc]
      have e3 : (T : Int) - (c : Int) = (d : Int) := by omega
      have e4 := i64_nat (k := u) (by omega)
      have e5 := i64_nat (k := d) (by omega)
      have e6 := i64_nat (k := c) (by omega)
      have HC0 := Lib.hid (And.intro hc hd)
      have hcn : c < n := by omega
      have hdn : d < n := by omega
      have hcs : s ≤ c ∧ c < t := by omega
      have hcn' : (c : Int) < (n : Int) := by omega
      have hdn' : (d : Int) < (n : Int) := by omega
      have hc0 : (0 : Int) ≤ (c : Int) := by omega
      have hd0 : (0 : Int) ≤ (d : Int) := by omega
      clear hc hd hu
      have hr := RL.still HM.out.1 HI.out.2.2
      have hr' := RL.still HM.out.2 HI.out.2.2
      obtain ⟨X, hx⟩ : ∃ x, L[c]? = some x := ⟨_, List.getElem?_eq_getElem (by omega)⟩
      obtain ⟨Y, hy⟩ : ∃ x, R[d]? = some x := ⟨_, List.getElem?_eq_getElem (by omega)⟩
      have c0 := rl_cell hr hx
      have c1 := rl_cell hr' hy
      have HK := Lib.hid (And.intro (kAt_eq hx) (kAt_eq hy))
      obtain ⟨k1, t1⟩ := X
      obtain ⟨k2, t2⟩ := Y
      have hS : S2 g (o + c) g' (o' + d) ⟨k1, t1⟩ ⟨k2, t2⟩ wr := ⟨c0, c1⟩
      have HC : Hid (∀ wx, S2 g (o + c) g' (o' + d) ⟨k1, t1⟩ ⟨k2, t2⟩ wx → Calls Try.prog 46 #[itb k1 t1, iw k2 t2] wx fun e w' => e = .returned (.int .i64 (ordZ k1 k2)) ∧ S2 g (o + c) g' (o' + d) ⟨k1, t1⟩ ⟨k2, t2⟩ w' ∧ Same wx w') := Lib.hid (fun wx h => cmpS g (o + c) g' (o' + d) ⟨k1, t1⟩ ⟨k2, t2⟩ wx h)
      clear c0 c1 hx hy hr hr' hl hl'
      obtain ⟨s2, s3⟩ := hS
      replace s2 : wr.cell? ⟨g, o + c, none⟩ = some (iw k1 t1) := s2
      replace s3 : wr.cell? ⟨g', o' + d, none⟩ = some (iw k2 t2) := s3
      have hm := methodC k1 t1
      have hni := nilC k1 t1
      go_wp2_with fail
      go_region_held3 (fun w' => w'.cell? ⟨g, o + c, none⟩ = some (iw k1 t1) ∧ w'.cell? ⟨g', o' + d, none⟩ = some (iw k2 t2)) (go_keep)
        (first | (go_at_call 46; refine (HC.out _ ⟨?_, ?_⟩).mono ?_; (simp [*]); (simp [*]); rintro e w4 ⟨rfl, ⟨r1, r2⟩, hs4⟩))
      have HS4 := Lib.hid hs4
      have HO4 : Hid (Same w w4) := Lib.hid (HI.out.2.2.trans (Only.undrew HS4.out))
      clear hs4 HS4 r1 r2 s2 s3 HC hm hni
      by_cases hcmp : k1 ≤ k2
      · have HN : Hid ((c + 1 = 0 ∨ kAt L (c + 1 - 1) ≤ kAt R (T - (c + 1 - 1))) ∧ (t = n ∨ kAt R (T - t) < kAt L t) ∧ Same w w4) := Lib.hid ⟨.inr (by
          rw [Nat.add_sub_cancel, HC0.out.2, HK.out.1, HK.out.2]; exact hcmp), HI.out.2.1, HO4.out⟩
        have hle := ord_le hcmp
        clear hcmp HI HO4 HK
        generalize ordZ k1 k2 = oz at *
        go_wp2_with fail
        go_roundw
        case rel => exact ⟨c + 1, t, by go_num, rfl, by omega, by omega, HN⟩
        case measure => simp [intOf]; omega
      · have HN : Hid ((s = 0 ∨ kAt L (s - 1) ≤ kAt R (T - (s - 1))) ∧ (c = n ∨ kAt R (T - c) < kAt L c) ∧ Same w w4) := Lib.hid ⟨HI.out.1, .inr (by
          rw [HC0.out.2, HK.out.1, HK.out.2]; show k2 < k1; omega), HO4.out⟩
        have hle : ¬ ordZ k1 k2 ≤ 0 := by rw [ord_pos (by omega)]; omega
        clear hcmp HI HO4 HK
        generalize ordZ k1 k2 = oz at *
        go_wp2_with fail
        go_roundw
        case rel => exact ⟨s, c, rfl, rfl, by omega, by omega, HN⟩
        case measure => simp [intOf]; omega
    · have hlt' : ¬ (s : Int) < (t : Int) := by omega
      have : s = t := by omega
      subst this
      go_wp2_with fail
      go_ret
      exact ⟨s, rfl, ⟨Nat.zero_le _, ht⟩, HI.out⟩
end Go.Proofs.Ytceonnacpakjhaa.mg

/-
  decreaseKeyUnchecked, DecreaseKey.
-/
import Derived.Test.YtpddddjfjmipfaaFhCut
namespace Go.Proofs.Ytpddddjfjmipfaa.fh
open Go.RowKit Go.Proofs.Ytpddddjfjmipfaa.base Go.Proofs.Ytpddddjfjmipfaa.heap Go.Proofs.Ytpddddjfjmipfaa.rows Go.Proofs.Ytpddddjfjmipfaa.flt
set_option linter.unusedVariables false

theorem le_words {a b : Nat} (ha : FinW a) (hb : FinW b) : (FloatKind.f64.format.order a b == some .lt || FloatKind.f64.format.order a b == some .eq) = decide (fval a ≤ fval b) := by
  rw [show FloatKind.f64.format.order a b = some (compare (fval a) (fval b)) from order_words ha hb]
  rcases Int.lt_trichotomy (fval a) (fval b) with h | h | h
  · rw [Int.compare_eq_lt.2 h]; simp; omega
  · rw [h]; simp
  · rw [Int.compare_eq_gt.2 h]; simp; omega
theorem ge_words {a b : Nat} (ha : FinW a) (hb : FinW b) : (FloatKind.f64.format.order a b == some .gt || FloatKind.f64.format.order a b == some .eq) = decide (fval b ≤ fval a) := by
  rw [show FloatKind.f64.format.order a b = some (compare (fval a) (fval b)) from order_words ha hb]
  rcases Int.lt_trichotomy (fval a) (fval b) with h | h | h
  · rw [Int.compare_eq_lt.2 h]; simp; omega
  · rw [h]; simp
  · rw [Int.compare_eq_gt.2 h]; simp; omega

/-- a priority that is lowered, still to be put right -/
def DkS (w wx : World) (hb : Nat) (F : Fs) (G : Gs) (A : List Nat) (x v m : Nat) : Prop :=
  HObj wx hb (some m) A.length ∧ Mem wx { F with pr := put F.pr x v } (· ∈ A) ∧ Only (Fp hb A) w wx
section
variable {w wx : World} {hb x v m : Nat} {F : Fs} {G : Gs} {A : List Nat} {pr : Nat → Nat}
theorem fo_pr {X : List Nat} (h : Fo F G A X) (x : Nat) {v : Nat} (hv : FinW v) : Fo { F with pr := put F.pr x v } G A X :=
  ⟨h.rings, h.tmp, h.nodup, h.all, h.kidpa, h.rootpa, h.pend, h.kids, h.ch, h.deg, h.up, fun b hb => by
    show FinW (put F.pr x v b)
    by_cases e : b = x
    · subst e; rw [put_same]; exact hv
    · rw [put_other e]; exact h.fin b hb⟩
theorem ord_pr (h : Ord F G (fun _ => False)) {v : Nat} (hv : fval v ≤ fval (F.pr x)) : Ord { F with pr := put F.pr x v } G (fun b => b = x) := fun p b hb hn => by
  show fval (put F.pr x v p) ≤ fval (put F.pr x v b)
  rw [put_other hn]
  have := h p b hb (fun f => f)
  by_cases e : p = x
  · subst e; rw [put_same]; omega
  · rw [put_other e]; exact this
end

set_option maxRecDepth 100000 in
set_option maxHeartbeats 3200000 in
theorem dku_root (hb x v : Nat) (A : List Nat) (pr : Nat → Nat) (w : World) (F : Fs) (G : Gs) (m : Nat) (hp : Hp w hb F G A (some m)) (hpr : ∀ u ∈ A, F.pr u = pr u) (hl : Least F G m) (hx : x ∈ A) (hv : FinW v) (hle : fval v ≤ fval (pr x)) (hpa : F.pa x = none) :
    Calls Try.prog 42 #[pp hb, pp x, .float .f64 v] w fun e w' => e = .returned (.tuple #[]) ∧ HpX w' hb A (put pr x v) ∧ Only (Fp hb A) w w' := by
  have hmA := hp.fo.mem hl.1
  have hxr : x ∈ G .root := by
    rcases (hp.fo.all x).1 hx with h1 | ⟨q, h1⟩
    · exact h1
    · have := hp.fo.kidpa q x h1
      rw [hpa] at this; cases this
  have hO1 : Only (Fp hb A) w (w.setCell ⟨x, 6, none⟩ (.float .f64 v)) := (Only.refl (Fp hb A) w).setCell ⟨x, 6, none⟩ _ (fun _ => .inr hx)
  have hOx : Only (fun k => k = x) w (w.setCell ⟨x, 6, none⟩ (.float .f64 v)) := (Only.refl (fun k => k = x) w).setCell ⟨x, 6, none⟩ _ (fun _ => rfl)
  have hM1 := hp.mem.setPr hx v
  have hobj1 : HObj (w.setCell ⟨x, 6, none⟩ (.float .f64 v)) hb (some m) A.length := hp.obj.keep hOx (fun e => hp.nin (e ▸ hx))
  obtain ⟨w1, hw1⟩ : ∃ w1, w1 = w.setCell ⟨x, 6, none⟩ (.float .f64 v) := ⟨_, rfl⟩
  have c6 := hp.mem.pr hx
  have f6 := hp.mem.fr hx 6
  have HST := Lib.hid (store_f (P := Try.prog) v c6 f6)
  rw [← hw1] at hO1 hM1 hobj1 HST
  have c0 := hobj1.c0
  replace c0 : w1.cell? ⟨hb, 0, none⟩ = some (pp m) := c0
  have fh := hobj1.fr
  have c1 := hM1.pa hx
  rw [show ({ F with pr := put F.pr x v } : Fs).pa x = none from hpa] at c1
  replace c1 : w1.cell? ⟨x, 5, none⟩ = some (.pointer none) := c1
  have c2 := hM1.pr hx
  rw [show ({ F with pr := put F.pr x v } : Fs).pr x = v from put_same] at c2
  obtain ⟨vm, hvm⟩ : ∃ vm, put F.pr x v m = vm := ⟨_, rfl⟩
  have c3 := hM1.pr hmA
  rw [show ({ F with pr := put F.pr x v } : Fs).pr m = vm from hvm] at c3
  have hFm : FinW vm := by rw [← hvm]; exact (fo_pr hp.fo x hv).fin m hmA
  have HLE := Lib.hid (le_words hv hFm)
  have hfo := fo_pr hp.fo x hv
  have hord := ord_pr (x := x) hp.ord (v := v) (by rw [hpr x hx]; exact hle)
  have hord' : Ord { F with pr := put F.pr x v } G (fun _ => False) := fun p b hbk _ => hord p b hbk (fun e => by
    have := hp.fo.rings.disj _ _ x hxr (e ▸ hbk); cases this)
  have hprr : ∀ u ∈ A, put F.pr x v u = put pr x v u := fun u hu => by
    by_cases e : u = x
    · subst e; rw [put_same, put_same]
    · rw [put_other e, put_other e]; exact hpr u hu
  have HF1 : Hid (fval v ≤ fval vm → ∀ k, HpX ((w1.drewN k).setCell ⟨hb, 0, none⟩ (pp x)) hb A (put pr x v) ∧ Only (Fp hb A) w ((w1.drewN k).setCell ⟨hb, 0, none⟩ (pp x))) := Lib.hid (fun hle2 k => by
    have hOs : Only (fun j => j = hb) w1 ((w1.drewN k).setCell ⟨hb, 0, none⟩ (pp x)) := ((Only.refl (fun j => j = hb) w1).drewN k).setCell ⟨hb, 0, none⟩ _ (fun _ => rfl)
    have hob2 : HObj ((w1.drewN k).setCell ⟨hb, 0, none⟩ (pp x)) hb (some x) A.length := HObj.set0 (w := w1.drewN k) hobj1 (some x)
    refine ⟨⟨_, G, some x, ⟨hob2, hM1.keep hOs (fun j hj e => hp.nin (by rw [← (show j = hb from e)]; exact hj)), hfo, hord', .inr ⟨x, rfl, hxr, fun r hr => ?_⟩, hp.nin⟩, hprr⟩, hO1.trans hOs (fun j _ hj => .inl hj)⟩
    show fval (put F.pr x v x) ≤ fval (put F.pr x v r)
    rw [put_same]
    by_cases e : r = x
    · subst e; rw [put_same]; exact Int.le_refl _
    · rw [put_other e]
      have h1 := hl.2 r hr
      by_cases e2 : m = x
      · have h2 : fval v ≤ fval (F.pr x) := by rw [hpr x hx]; exact hle
        rw [e2] at h1; omega
      · rw [put_other e2] at hvm; rw [hvm] at h1; omega)
  have HF2 : Hid (fval vm < fval v → ∀ k j, HpX ((w1.drewN k).drewN j) hb A (put pr x v) ∧ Only (Fp hb A) w ((w1.drewN k).drewN j)) := Lib.hid (fun hle1 k j => by
    have hle2 : ¬ fval v ≤ fval vm := by omega
    have hmx : m ≠ x := fun e => by rw [← hvm, e, put_same] at hle2; exact hle2 (Int.le_refl _)
    refine ⟨⟨_, G, some m, ⟨hobj1, hM1, hfo, hord', .inr ⟨m, rfl, hl.1, fun r hr => ?_⟩, hp.nin⟩, hprr⟩, (hO1.drewN k).drewN j⟩
    show fval (put F.pr x v m) ≤ fval (put F.pr x v r)
    rw [hvm]
    by_cases e : r = x
    · subst e; rw [put_same]; omega
    · rw [put_other e, ← hvm, put_other hmx]; exact hl.2 r hr)
  clear hp hpr hl hx hle hpa hmA hxr hO1 hOx hM1 hobj1 hfo hord hord' hprr hFm hvm hv
  go_enter Try.func42, Try.ntmps42
  go_wp2_with fail
  rw [HST.out]
  clear c6 f6 hw1 HST
  go_wp2_with fail
  go_quiet (fail)
  go_wp2_with fail
  by_cases hcmp : fval v ≤ fval vm
  · have hl2 : (FloatKind.f64.format.order v vm == some .lt || FloatKind.f64.format.order v vm == some .eq) = true := by rw [HLE.out]; exact decide_eq_true hcmp
    have HF := Lib.hid (HF1.out hcmp)
    clear hcmp HF1 HF2 HLE
    go_quiet (fail)
    go_wp2_with fail
    go_end0
    exact ⟨rfl, HF.out _⟩
  · have hl2 : (FloatKind.f64.format.order v vm == some .lt || FloatKind.f64.format.order v vm == some .eq) = false := by rw [HLE.out]; exact decide_eq_false hcmp
    have HF := Lib.hid (HF2.out (by omega))
    clear hcmp HF1 HF2 HLE
    go_quiet (fail)
    go_wp2_with fail
    go_end0
    exact ⟨rfl, HF.out _ _⟩

set_option maxRecDepth 100000 in
set_option maxHeartbeats 3200000 in
theorem dku_stay (hb x v p : Nat) (A : List Nat) (pr : Nat → Nat) (w : World) (F : Fs) (G : Gs) (m : Nat) (hp : Hp w hb F G A (some m)) (hpr : ∀ u ∈ A, F.pr u = pr u) (hl : Least F G m) (hx : x ∈ G (.kid p)) (hv : FinW v) (hle : fval v ≤ fval (pr x)) (hst : fval (pr p) < fval v) :
    Calls Try.prog 42 #[pp hb, pp x, .float .f64 v] w fun e w' => e = .returned (.tuple #[]) ∧ HpX w' hb A (put pr x v) ∧ Only (Fp hb A) w w' := by
  have hxA := hp.fo.mem hx
  have hpA := hp.fo.kids p x hx
  have hmA := hp.fo.mem hl.1
  have hpa := hp.fo.kidpa p x hx
  have hpx : p ≠ x := fun e => up_anc (hp.fo.up x hxA) (.one (by rw [hpa, e]))
  have hmx : m ≠ x := fun e => by have := hp.fo.rings.disj _ _ m hl.1 (e ▸ hx); cases this
  have hO1 : Only (Fp hb A) w (w.setCell ⟨x, 6, none⟩ (.float .f64 v)) := (Only.refl (Fp hb A) w).setCell ⟨x, 6, none⟩ _ (fun _ => .inr hxA)
  have hOx : Only (fun k => k = x) w (w.setCell ⟨x, 6, none⟩ (.float .f64 v)) := (Only.refl (fun k => k = x) w).setCell ⟨x, 6, none⟩ _ (fun _ => rfl)
  have hM1 := hp.mem.setPr hxA v
  have hobj1 : HObj (w.setCell ⟨x, 6, none⟩ (.float .f64 v)) hb (some m) A.length := hp.obj.keep hOx (fun e => hp.nin (e ▸ hxA))
  obtain ⟨w1, hw1⟩ : ∃ w1, w1 = w.setCell ⟨x, 6, none⟩ (.float .f64 v) := ⟨_, rfl⟩
  have c6 := hp.mem.pr hxA
  have f6 := hp.mem.fr hxA 6
  have HST := Lib.hid (store_f (P := Try.prog) v c6 f6)
  rw [← hw1] at hO1 hM1 hobj1 HST
  have c0 := hobj1.c0
  replace c0 : w1.cell? ⟨hb, 0, none⟩ = some (pp m) := c0
  have c1 := hM1.pa hxA
  rw [show ({ F with pr := put F.pr x v } : Fs).pa x = some p from hpa] at c1
  replace c1 : w1.cell? ⟨x, 5, none⟩ = some (pp p) := c1
  have c2 := hM1.pr hxA
  rw [show ({ F with pr := put F.pr x v } : Fs).pr x = v from put_same] at c2
  obtain ⟨vm, hvm⟩ : ∃ vm, F.pr m = vm := ⟨_, rfl⟩
  obtain ⟨vp, hvp⟩ : ∃ vp, F.pr p = vp := ⟨_, rfl⟩
  have c3 := hM1.pr hmA
  rw [show ({ F with pr := put F.pr x v } : Fs).pr m = vm from (put_other hmx).trans hvm] at c3
  have c4 := hM1.pr hpA
  rw [show ({ F with pr := put F.pr x v } : Fs).pr p = vp from (put_other hpx).trans hvp] at c4
  have hFm : FinW vm := by rw [← hvm]; exact hp.fo.fin m hmA
  have hFp : FinW vp := by rw [← hvp]; exact hp.fo.fin p hpA
  have hvpv : fval vp < fval v := by rw [← hvp, hpr p hpA]; exact hst
  have hmp := hp.fo.least hp.ord hl p hpA
  rw [hvm, hvp] at hmp
  have l1 : (FloatKind.f64.format.order v vp == some .lt || FloatKind.f64.format.order v vp == some .eq) = false := by rw [le_words hv hFp]; exact decide_eq_false (by omega)
  have l2 : (FloatKind.f64.format.order v vm == some .lt || FloatKind.f64.format.order v vm == some .eq) = false := by rw [le_words hv hFm]; exact decide_eq_false (by omega)
  have hfo := fo_pr hp.fo x hv
  have hord : Ord { F with pr := put F.pr x v } G (fun _ => False) := fun q b hbk _ => by
    show fval (put F.pr x v q) ≤ fval (put F.pr x v b)
    have h1 := hp.ord q b hbk (fun f => f)
    by_cases e : b = x
    · subst e
      rw [put_same]
      have h2 := hp.fo.kidpa q b hbk
      rw [hpa] at h2
      cases h2
      rw [put_other hpx, hvp]; omega
    · rw [put_other e]
      by_cases e2 : q = x
      · subst e2
        have : fval v ≤ fval (F.pr q) := by rw [hpr q hxA]; exact hle
        rw [put_same]; omega
      · rw [put_other e2]; exact h1
  have hprr : ∀ u ∈ A, put F.pr x v u = put pr x v u := fun u hu => by
    by_cases e : u = x
    · subst e; rw [put_same, put_same]
    · rw [put_other e, put_other e]; exact hpr u hu
  have HF : Hid (∀ k j, HpX ((w1.drewN k).drewN j) hb A (put pr x v) ∧ Only (Fp hb A) w ((w1.drewN k).drewN j)) := Lib.hid (fun k j => by
    refine ⟨⟨_, G, some m, ⟨hobj1, hM1, hfo, hord, .inr ⟨m, rfl, hl.1, fun r hr => ?_⟩, hp.nin⟩, hprr⟩, (hO1.drewN k).drewN j⟩
    show fval (put F.pr x v m) ≤ fval (put F.pr x v r)
    rw [put_other hmx, put_other (fun (e : r = x) => by have := hp.fo.rings.disj _ _ r hr (e ▸ hx); cases this)]
    exact hl.2 r hr)
  clear hp hpr hl hx hle hpa hmA hpA hxA hO1 hOx hM1 hobj1 hfo hord hprr hFm hFp hvm hvp hv hst hpx hmx hvpv hmp
  go_enter Try.func42, Try.ntmps42
  go_wp2_with fail
  rw [HST.out]
  clear c6 f6 hw1 HST
  go_wp2_with fail
  go_quiet (fail)
  go_wp2_with fail
  go_quiet (fail)
  go_wp2_with fail
  go_end0
  exact ⟨rfl, HF.out _ _⟩

set_option maxRecDepth 100000 in
set_option maxHeartbeats 3200000 in
theorem dku_cut (hb x v p : Nat) (A : List Nat) (pr : Nat → Nat) (w : World) (F : Fs) (G : Gs) (m : Nat) (hp : Hp w hb F G A (some m)) (hpr : ∀ u ∈ A, F.pr u = pr u) (hl : Least F G m) (hx : x ∈ G (.kid p)) (hv : FinW v) (hle : fval v ≤ fval (pr x)) (hst : fval v ≤ fval (pr p)) (hsz : A.length < 1000000) :
    Calls Try.prog 42 #[pp hb, pp x, .float .f64 v] w fun e w' => e = .returned (.tuple #[]) ∧ HpX w' hb A (put pr x v) ∧ Only (Fp hb A) w w' := by
  have hxA := hp.fo.mem hx
  have hpA := hp.fo.kids p x hx
  have hmA := hp.fo.mem hl.1
  have hpa := hp.fo.kidpa p x hx
  have hpx : p ≠ x := fun e => up_anc (hp.fo.up x hxA) (.one (by rw [hpa, e]))
  have hmx : m ≠ x := fun e => by have := hp.fo.rings.disj _ _ m hl.1 (e ▸ hx); cases this
  have hO1 : Only (Fp hb A) w (w.setCell ⟨x, 6, none⟩ (.float .f64 v)) := (Only.refl (Fp hb A) w).setCell ⟨x, 6, none⟩ _ (fun _ => .inr hxA)
  have hOx : Only (fun k => k = x) w (w.setCell ⟨x, 6, none⟩ (.float .f64 v)) := (Only.refl (fun k => k = x) w).setCell ⟨x, 6, none⟩ _ (fun _ => rfl)
  have hM1 := hp.mem.setPr hxA v
  have hobj1 : HObj (w.setCell ⟨x, 6, none⟩ (.float .f64 v)) hb (some m) A.length := hp.obj.keep hOx (fun e => hp.nin (e ▸ hxA))
  obtain ⟨w1, hw1⟩ : ∃ w1, w1 = w.setCell ⟨x, 6, none⟩ (.float .f64 v) := ⟨_, rfl⟩
  have c6 := hp.mem.pr hxA
  have f6 := hp.mem.fr hxA 6
  have HST := Lib.hid (store_f (P := Try.prog) v c6 f6)
  rw [← hw1] at hO1 hM1 hobj1 HST
  have c1 := hM1.pa hxA
  rw [show ({ F with pr := put F.pr x v } : Fs).pa x = some p from hpa] at c1
  replace c1 : w1.cell? ⟨x, 5, none⟩ = some (pp p) := c1
  have c2 := hM1.pr hxA
  rw [show ({ F with pr := put F.pr x v } : Fs).pr x = v from put_same] at c2
  obtain ⟨vp, hvp⟩ : ∃ vp, F.pr p = vp := ⟨_, rfl⟩
  have c4 := hM1.pr hpA
  rw [show ({ F with pr := put F.pr x v } : Fs).pr p = vp from (put_other hpx).trans hvp] at c4
  have hFp : FinW vp := by rw [← hvp]; exact hp.fo.fin p hpA
  have hvpv : fval v ≤ fval vp := by rw [← hvp, hpr p hpA]; exact hst
  have l1 : (FloatKind.f64.format.order v vp == some .lt || FloatKind.f64.format.order v vp == some .eq) = true := by rw [le_words hv hFp]; exact decide_eq_true hvpv
  have hfo := fo_pr hp.fo x hv
  have hord := ord_pr (x := x) hp.ord (v := v) (by rw [hpr x hxA]; exact hle)
  have hprr : ∀ u ∈ A, put F.pr x v u = put pr x v u := fun u hu => by
    by_cases e : u = x
    · subst e; rw [put_same, put_same]
    · rw [put_other e, put_other e]; exact hpr u hu
  have hl1 : Least { F with pr := put F.pr x v } G m := ⟨hl.1, fun r hr => by
    show fval (put F.pr x v m) ≤ fval (put F.pr x v r)
    rw [put_other hmx, put_other (fun (e : r = x) => by have := hp.fo.rings.disj _ _ r hr (e ▸ hx); cases this)]
    exact hl.2 r hr⟩
  have HC : Hid (∀ k, Calls Try.prog 54 #[pp hb, pp x] (w1.drewN k) (CuP hb { F with pr := put F.pr x v } A [] A.length x (w1.drewN k))) := Lib.hid (fun k =>
    cutNode hb A.length A hsz F.pa x (hp.fo.up x hxA) { F with pr := put F.pr x v } G [] m (w1.drewN k) rfl ⟨hobj1, hM1.drewN k, hfo, hl1, hp.nin⟩ hxA List.not_mem_nil (fun y hy => absurd hy List.not_mem_nil) hord)
  have HK := Lib.hid (And.intro hprr (And.intro hO1 (And.intro hv hxA)))
  clear hp hpr hl hx hle hpa hmA hpA hO1 hOx hM1 hobj1 hfo hord hprr hFp hvp hv hst hpx hmx hvpv hl1 hxA
  go_enter Try.func42, Try.ntmps42
  go_wp2_with fail
  rw [HST.out]
  clear c6 f6 hw1 HST
  go_wp2_with fail
  go_quiet (fail)
  go_wp2_with (go_at_call 54; with_reducible refine (HC.out _).mono ?_)
  rintro e w2 h2
  obtain ⟨rfl, F2, G2, m2, hcs, hor, hpr2, hrt, hon⟩ : e = .returned (.tuple #[]) ∧ ∃ F' G' m', CutS w2 hb F' G' A [] m' A.length ∧ Ord F' G' (fun _ => False) ∧ F'.pr = put F.pr x v ∧ x ∈ G' .root ∧ Only (Fp hb A) _ w2 := h2
  have d0 := hcs.obj.c0
  replace d0 : w2.cell? ⟨hb, 0, none⟩ = some (pp m2) := d0
  have fh := hcs.obj.fr
  have d2 := hcs.mem.pr HK.out.2.2.2
  rw [hpr2, put_same] at d2
  have hm2A := hcs.fo.mem hcs.least.1
  obtain ⟨vm, hvm⟩ : ∃ vm, F2.pr m2 = vm := ⟨_, rfl⟩
  have d3 := hcs.mem.pr hm2A
  rw [hvm] at d3
  have hFm : FinW vm := by rw [← hvm]; exact hcs.fo.fin m2 hm2A
  have hpx2 : F2.pr x = v := by rw [hpr2, put_same]
  have hpr3 : ∀ u ∈ A, F2.pr u = put pr x v u := fun u hu => by rw [hpr2]; exact HK.out.1 u hu
  have hO2 : Only (Fp hb A) w w2 := Only.trans (S := Fp hb A) (HK.out.2.1) (Only.undrewN hon) (fun k _ hk => hk)
  have HF1 : Hid (fval v ≤ fval vm → ∀ k, HpX ((w2.drewN k).setCell ⟨hb, 0, none⟩ (pp x)) hb A (put pr x v) ∧ Only (Fp hb A) w ((w2.drewN k).setCell ⟨hb, 0, none⟩ (pp x))) := Lib.hid (fun hle2 k => by
    have hOs : Only (fun j => j = hb) w2 ((w2.drewN k).setCell ⟨hb, 0, none⟩ (pp x)) := ((Only.refl (fun j => j = hb) w2).drewN k).setCell ⟨hb, 0, none⟩ _ (fun _ => rfl)
    have hob2 : HObj ((w2.drewN k).setCell ⟨hb, 0, none⟩ (pp x)) hb (some x) A.length := HObj.set0 (w := w2.drewN k) hcs.obj (some x)
    refine ⟨⟨F2, G2, some x, ⟨hob2, hcs.mem.keep hOs (fun j hj e => hcs.nin (by rw [← (show j = hb from e)]; exact hj)), hcs.fo, hor, .inr ⟨x, rfl, hrt, fun r hr => ?_⟩, hcs.nin⟩, hpr3⟩, hO2.trans hOs (fun j _ hj => .inl hj)⟩
    have h1 := hcs.least.2 r hr
    rw [hvm] at h1
    rw [hpx2]; omega)
  have HF2 : Hid (∀ k, HpX (w2.drewN k) hb A (put pr x v) ∧ Only (Fp hb A) w (w2.drewN k)) := Lib.hid (fun k =>
    ⟨⟨F2, G2, some m2, ⟨hcs.obj, hcs.mem.drewN k, hcs.fo, hor, .inr ⟨m2, rfl, hcs.least⟩, hcs.nin⟩, hpr3⟩, hO2.drewN k⟩)
  have HLE := Lib.hid (le_words HK.out.2.2.1 hFm)
  clear hcs hor hpr2 hrt hon hm2A hvm hFm hpx2 hpr3 hO2 c1 c2 c4 l1 HC
  by_cases hcmp : fval v ≤ fval vm
  · have hl2 : (FloatKind.f64.format.order v vm == some .lt || FloatKind.f64.format.order v vm == some .eq) = true := by rw [HLE.out]; exact decide_eq_true hcmp
    have HF := Lib.hid (HF1.out hcmp)
    clear hcmp HF1 HF2 HLE
    go_wp2_with fail
    go_quiet (fail)
    go_wp2_with fail
    go_end0
    exact ⟨rfl, HF.out _⟩
  · have hl2 : (FloatKind.f64.format.order v vm == some .lt || FloatKind.f64.format.order v vm == some .eq) = false := by rw [HLE.out]; exact decide_eq_false hcmp
    clear hcmp HF1 HLE
    go_wp2_with fail
    go_quiet (fail)
    go_wp2_with fail
    go_end0
    exact ⟨rfl, HF2.out _⟩

theorem dku (hb x v : Nat) (A : List Nat) (pr : Nat → Nat) (w : World) (h : HpX w hb A pr) (hx : x ∈ A) (hv : FinW v) (hle : fval v ≤ fval (pr x)) (hsz : A.length < 1000000) :
    Calls Try.prog 42 #[pp hb, pp x, .float .f64 v] w fun e w' => e = .returned (.tuple #[]) ∧ HpX w' hb A (put pr x v) ∧ Only (Fp hb A) w w' := by
  obtain ⟨F, G, mn, hp, hpr⟩ := h
  rcases hp.min with ⟨_, hA⟩ | ⟨m, rfl, hl⟩
  · subst hA; cases hx
  · rcases (hp.fo.all x).1 hx with h1 | ⟨p, h1⟩
    · exact dku_root hb x v A pr w F G m hp hpr hl hx hv hle (hp.fo.rootpa x h1 List.not_mem_nil)
    · by_cases hc : fval v ≤ fval (pr p)
      · exact dku_cut hb x v p A pr w F G m hp hpr hl h1 hv hle hc hsz
      · exact dku_stay hb x v p A pr w F G m hp hpr hl h1 hv hle (by omega)
end Go.Proofs.Ytpddddjfjmipfaa.fh

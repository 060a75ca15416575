/-
  walkUpNode: the threads of a new branch.
-/
import Derived.Test.YtcjifjfcjimefaaDoorZXfUp
namespace Go.Proofs.YtcjifjfcjimefaaDoor.xf
open Go.RowKit Go.Proofs.YtcjifjfcjimefaaDoor.base Go.Proofs.YtcjifjfcjimefaaDoor.heap Go.Proofs.YtcjifjfcjimefaaDoor.rows Go.Proofs.YtcjifjfcjimefaaDoor.mapn
set_option linter.unusedVariables false
variable [Inhabited Kd]

omit [Inhabited Kd] in
theorem neq_po {w : World} {u : Nat} {c : Option Nat} (hu : Liv w u) (hc : ∀ x, c = some x → Liv w x) : (binOp .neq 104 (pb u) (op c)).run Tryd.prog w = .ok (.bool (!(c == some u))) w := by
  cases c with
  | none => exact neq_pn w u
  | some x =>
    have := neq_pp hu (hc x rfl)
    rw [show op (some x) = pb x from rfl, this]
    by_cases e : u = x
    · subst e; simp
    · have e1 : (u == x) = false := by simpa using e
      have e2 : (some x == some u) = false := by simpa using fun h : x = u => e h.symm
      rw [e1, e2]
/-- an address, or none -/
def pa : Option Nat → Option Addr
  | none => none
  | some b => some ⟨b, 0, none⟩
omit [Inhabited Kd] in
theorem op_pa (c : Option Nat) : op c = .pointer (pa c) := by cases c <;> rfl
omit [Inhabited Kd] in
theorem neq_poq {w : World} {u : Nat} {c : Option Nat} {q : Option Addr} (hq : pa c = q) (hu : Liv w u) (hc : ∀ x, c = some x → Liv w x) : (binOp .neq 104 (pb u) (.pointer q)).run Tryd.prog w = .ok (.bool (!(c == some u))) w := by
  rw [← hq, ← op_pa]; exact neq_po hu hc
omit [Inhabited Kd] in
theorem neq_no {w : World} {c : Option Nat} : (binOp .neq 104 (.pointer none) (op c)).run Tryd.prog w = .ok (.bool (!(c == none))) w := by
  cases c with
  | none => exact neq_nn w
  | some x =>
    rw [show op (some x) = pb x from rfl, neq_np w x]
    simp
omit [Inhabited Kd] in
theorem neq_noq {w : World} {c : Option Nat} {q : Option Addr} (hq : pa c = q) : (binOp .neq 104 (.pointer none) (.pointer q)).run Tryd.prog w = .ok (.bool (!(c == none))) w := by
  rw [← hq, ← op_pa]; exact neq_no
omit [Inhabited Kd] in
theorem upd_self (f : Cf) (d p s : Nat) : upd f d p s (f d p s) = f := by
  funext d' p' s'
  unfold upd
  split
  · rename_i h; obtain ⟨rfl, rfl, rfl⟩ := h; rfl
  · rfl
theorem side_skip {w : World} {S : Sh} {f : Cf} {d p s : Nat} {z : Option Nat} (h : Mem w (S.w f)) (hz : f d p s = z) : Mem w (S.w (upd f d p s z)) := by
  subst hz
  rw [upd_self]; exact h
/-- an inner node -/
def IsIn (S : Sh) (c : Option Nat) : Prop := ∃ d p, d < S.m ∧ c = S.lk d p ∧ c ≠ none
open Classical in
/-- what a child becomes -/
noncomputable def fin (S : Sh) (bx : Nat) (c z : Option Nat) : Option Nat := if IsIn S c ∨ c = some bx then c else z
omit [Inhabited Kd] in
theorem fin_in {S : Sh} {bx : Nat} {c z : Option Nat} (h : IsIn S c) : fin S bx c z = c := by unfold fin; rw [if_pos (.inl h)]
omit [Inhabited Kd] in
theorem fin_bx {S : Sh} {bx : Nat} {z : Option Nat} : fin S bx (some bx) z = some bx := by unfold fin; rw [if_pos (.inr rfl)]
omit [Inhabited Kd] in
theorem fin_nil {S : Sh} {bx : Nat} {z : Option Nat} : fin S bx none z = z := by
  unfold fin
  rw [if_neg (by rintro (⟨_, _, _, _, h⟩ | h); exact h rfl; cases h)]
/-- said of walkUpNode -/
def NdP (S : Sh) (x : Nat) (rt : Option Nat) (bx : Nat) (pr su : Option Nat) (w : World) (e : Ending) (w' : World) : Prop :=
  e = .returned (.tuple #[]) ∧ ∃ f, Mem w' (S.w f) ∧ Only (Inn S) w w' ∧ ∃ j, j ≤ S.m ∧ (j = 0 ∨ S.lk (j - 1) (pre S.m (j - 1) x) = rt) ∧
    (∀ d p t, ¬ (p = pre S.m d x ∧ j ≤ d ∧ d < S.m ∧ t < 2) → f d p t = S.ch d p t) ∧ (∀ d, j ≤ d → d < S.m → f d (pre S.m d x) 0 = fin S bx (S.ch d (pre S.m d x) 0) pr ∧ f d (pre S.m d x) 1 = fin S bx (S.ch d (pre S.m d x) 1) su) ∧ ∀ d, j ≤ d → d < S.m → S.lk d (pre S.m d x) ≠ rt
/-- in the course of it: j levels are left -/
structure NdI (S : Sh) (x : Nat) (rt : Option Nat) (bx : Nat) (pr su : Option Nat) (w wr : World) (j : Nat) (f : Cf) : Prop where
  mem : Mem wr (S.w f)
  only : Only (Inn S) w wr
  off : ∀ d p t, ¬ (p = pre S.m d x ∧ j ≤ d ∧ d < S.m ∧ t < 2) → f d p t = S.ch d p t
  done : ∀ d, j ≤ d → d < S.m → f d (pre S.m d x) 0 = fin S bx (S.ch d (pre S.m d x) 0) pr ∧ f d (pre S.m d x) 1 = fin S bx (S.ch d (pre S.m d x) 1) su
  ne : ∀ d, j ≤ d → d < S.m → S.lk d (pre S.m d x) ≠ rt
theorem NdI.step {S : Sh} {x bx j : Nat} {rt pr su z0 z1 : Option Nat} {w wr w' : World} {f : Cf} (h : NdI S x rt bx pr su w wr (j + 1) f) (hj : j < S.m) (h1 : S.lk j (pre S.m j x) ≠ rt) (ho : Only (Inn S) wr w') (hz0 : fin S bx (S.ch j (pre S.m j x) 0) pr = z0) (hz1 : fin S bx (S.ch j (pre S.m j x) 1) su = z1)
    (hM : Mem w' (S.w (upd (upd f j (pre S.m j x) 1 z1) j (pre S.m j x) 0 z0))) : NdI S x rt bx pr su w w' j (upd (upd f j (pre S.m j x) 1 z1) j (pre S.m j x) 0 z0) := by
  refine ⟨hM, h.only.trans ho (fun _ _ h => h), fun d p t hn => ?_, fun d hd hm => ?_, fun d hd hm => ?_⟩
  · have e0 : ¬ (d = j ∧ p = pre S.m j x ∧ t = 0) := fun ⟨e1, e2, e3⟩ => hn ⟨by rw [e1]; exact e2, by omega, by omega, by omega⟩
    have e1 : ¬ (d = j ∧ p = pre S.m j x ∧ t = 1) := fun ⟨e1, e2, e3⟩ => hn ⟨by rw [e1]; exact e2, by omega, by omega, by omega⟩
    rw [upd_other _ _ _ _ _ e0, upd_other _ _ _ _ _ e1]
    exact h.off d p t (fun ⟨a, b, c, e⟩ => hn ⟨a, by omega, c, e⟩)
  · rcases Nat.eq_or_lt_of_le hd with e | hlt
    · subst e
      rw [upd_same, upd_other _ _ _ _ _ (by omega), upd_same]
      exact ⟨hz0.symm, hz1.symm⟩
    · rw [upd_other _ _ _ _ _ (by omega), upd_other _ _ _ _ _ (by omega), upd_other _ _ _ _ _ (by omega), upd_other _ _ _ _ _ (by omega)]
      exact h.done d hlt hm
  · rcases Nat.eq_or_lt_of_le hd with e | hlt
    · subst e; exact h1
    · exact h.ne d hlt hm
set_option maxRecDepth 100000 in
set_option maxHeartbeats 6400000 in
theorem walkUpN (w : World) (S : Sh) (tb bx x : Nat) (rt pr su : Option Nat) (hM : Mem w S) (hi : Inj S) (hm : 1 ≤ S.m) (hup : ∀ d, d ≤ S.m → S.lk d (pre S.m d x) ≠ none) (hbx : S.lk S.m x = some bx)
    (hc0 : ∀ d, d < S.m → (∀ d', d ≤ d' → d' < S.m → S.lk d' (pre S.m d' x) ≠ rt) → S.ch d (pre S.m d x) 0 = none ∨ IsIn S (S.ch d (pre S.m d x) 0) ∨ S.ch d (pre S.m d x) 0 = some bx)
    (hc1 : ∀ d, d < S.m → (∀ d', d ≤ d' → d' < S.m → S.lk d' (pre S.m d' x) ≠ rt) → S.ch d (pre S.m d x) 1 = none ∨ IsIn S (S.ch d (pre S.m d x) 1) ∨ S.ch d (pre S.m d x) 1 = some bx)
    (hrt : rt = none ∨ ∃ d p, d < S.m ∧ rt = S.lk d p) (hpr : pr = none ∨ ∃ k, S.K k ∧ pr = S.lk S.m k) (hsu : su = none ∨ ∃ k, S.K k ∧ su = S.lk S.m k) (hprx : pr ≠ some bx) (hsux : su ≠ some bx) :
    Calls Tryd.prog 68 #[op (some tb), op rt, op (some bx), op pr, op su] w (NdP S x rt bx pr su w) := by
  have HI0 : Hid (NdI S x rt bx pr su w w S.m S.ch) := Lib.hid ⟨hM, Only.refl _ _, fun d p t _ => rfl, fun d hd hm => by omega, fun d hd hm => by omega⟩
  have hn := hM.leaf hbx
  have y3 := hn.p
  have lbs := hn.lt
  have HI := Lib.hid hi
  have HUP := Lib.hid hup
  have HBX := Lib.hid hbx
  have HC0 := Lib.hid hc0
  have HC1 := Lib.hid hc1
  have HRT := Lib.hid hrt
  have HPR := Lib.hid hpr
  have HSU := Lib.hid hsu
  have eprx : (pr == some bx) = false := by simpa using hprx
  have esux : (su == some bx) = false := by simpa using hsux
  have hpar : S.par S.m x = if S.m = 0 then none else S.lk (S.m - 1) (pre S.m (S.m - 1) x) := by
    obtain ⟨e, he⟩ : ∃ e, S.m = e + 1 := ⟨S.m - 1, by omega⟩
    have h1 := pre_half (m := S.m) (d := e) (k := x) (by omega)
    rw [← he, pre_full] at h1
    rw [if_neg (by omega), he, Nat.add_sub_cancel, ← he, ← h1]
    show S.par S.m x = S.lk e (x / 2)
    rw [he]; rfl
  obtain ⟨nv, hnv⟩ : ∃ nv, op (if S.m = 0 then none else S.lk (S.m - 1) (pre S.m (S.m - 1) x)) = nv := ⟨_, rfl⟩
  rw [hpar, hnv] at y3
  have HNV := Lib.hid hnv
  clear hM hi hup hbx hc0 hc1 hrt hpr hsu hn hpar hnv hprx hsux
  obtain ⟨qpr, hqpr⟩ : ∃ q, pa pr = q := ⟨_, rfl⟩
  obtain ⟨qsu, hqsu⟩ : ∃ q, pa su = q := ⟨_, rfl⟩
  rw [op_pa pr, op_pa su, hqpr, hqsu]
  have HQpr := Lib.hid hqpr
  have HQsu := Lib.hid hqsu
  clear hqpr hqsu
  show Calls Tryd.prog 68 #[pb tb, op rt, pb bx, .pointer qpr, .pointer qsu] w _
  go_enter Tryd.func68, Tryd.ntmps68
  go_wp2_with fail
  go_loopg [10] S.m (fun kx nv wr => ∃ (j : Nat) (f : Cf), j ≤ kx ∧ j ≤ S.m ∧ nv = op (if j = 0 then none else S.lk (j - 1) (pre S.m (j - 1) x)) ∧ Hid (NdI S x rt bx pr su w wr j f))
  case atStart => exact ⟨S.m, S.ch, Nat.le_refl _, Nat.le_refl _, HNV.out.symm, HI0⟩
  case round =>
    clear HI0
    obtain ⟨j, f, hj, hjm, rfl, HU⟩ := hrel
    rcases Nat.eq_zero_or_pos j with h0 | h0
    · subst h0
      rw [if_pos rfl, show op (none : Option Nat) = Value.pointer none from rfl]
      go_wp2_with fail
      go_end0
      exact ⟨rfl, f, HU.out.mem, HU.out.only, 0, Nat.zero_le _, .inl rfl, HU.out.off, HU.out.done, HU.out.ne⟩
    · obtain ⟨e, rfl⟩ : ∃ e, j = e + 1 := ⟨j - 1, by omega⟩
      obtain ⟨b, hb⟩ : ∃ b, S.lk e (pre S.m e x) = some b := by
        cases hb : S.lk e (pre S.m e x) with
        | none => exact absurd hb (HUP.out e (by omega))
        | some b => exact ⟨b, rfl⟩
      have HB := Lib.hid hb
      rw [if_neg (by omega), Nat.add_sub_cancel, hb, show op (some b) = pb b from rfl]
      have hem : e < S.m := by omega
      have hnb : Nd wr b .nilIface (f e (pre S.m e x) 0) (f e (pre S.m e x) 1) (S.par e (pre S.m e x)) := Mem.inner (S := S.w f) HU.out.mem hem hb
      have hns : Nd wr bx (item x (S.ent x)) (f S.m x 0) (f S.m x 1) (S.par S.m x) := Mem.leaf (S := S.w f) HU.out.mem HBX.out
      have HLB := Lib.hid hnb.liv
      have HLX := Lib.hid hns.liv
      have HNX := Lib.hid hns
      have HLP : Hid (∀ u, pr = some u → Liv wr u) := Lib.hid (fun u hu => by
        rcases HPR.out with h | ⟨k, hk, h⟩
        · rw [h] at hu; cases hu
        · exact (Mem.leaf (S := S.w f) HU.out.mem (h.symm.trans hu)).liv)
      have HLS : Hid (∀ u, su = some u → Liv wr u) := Lib.hid (fun u hu => by
        rcases HSU.out with h | ⟨k, hk, h⟩
        · rw [h] at hu; cases hu
        · exact (Mem.leaf (S := S.w f) HU.out.mem (h.symm.trans hu)).liv)
      have HLR : Hid (∀ u, rt = some u → Liv wr u) := Lib.hid (fun u hu => by
        rcases HRT.out with h | ⟨d, p, hd, h⟩
        · rw [h] at hu; cases hu
        · exact (Mem.inner (S := S.w f) HU.out.mem hd (h.symm.trans hu)).liv)
      have y3 := hnb.p
      rw [par_up hem] at y3
      obtain ⟨nv, hnv⟩ : ∃ nv, op (if e = 0 then none else S.lk (e - 1) (pre S.m (e - 1) x)) = nv := ⟨_, rfl⟩
      rw [hnv] at y3
      have HNV := Lib.hid hnv
      have lb := hnb.lt
      have fb := hnb.fr
      have yc0 := hnb.c0
      have yc1 := hnb.c1
      have hw0 := HU.out.off e (pre S.m e x) 0 (fun ⟨_, h, _⟩ => by omega)
      have hw1 := HU.out.off e (pre S.m e x) 1 (fun ⟨_, h, _⟩ => by omega)
      have HW0 := Lib.hid hw0
      have HW1 := Lib.hid hw1
      rw [hw0] at yc0
      rw [hw1] at yc1
      have HMU := Lib.hid HU.out.mem
      clear hnb hns hnv hw0 hw1 hb
      by_cases hbr : rt = some b
      · have hbr' : (rt == some b) = true := by simpa using hbr
        have HBR := Lib.hid hbr
        clear hbr
        go_wp2_with fail
        rw [neq_po HLB.out HLR.out, hbr']
        go_wp2_with fail
        go_end0
        exact ⟨rfl, f, HU.out.mem, HU.out.only, e + 1, hjm, .inr (by rw [Nat.add_sub_cancel, HB.out, HBR.out]), HU.out.off, HU.out.done, HU.out.ne⟩
      · have hbr' : (rt == some b) = false := by simpa using hbr
        have HNE : Hid (S.lk e (pre S.m e x) ≠ rt) := Lib.hid (fun h => hbr (by rw [← h, HB.out]))
        clear hbr
        have HCA0 := Lib.hid (HC0.out e hem (fun d' hd hm => by
          rcases Nat.eq_or_lt_of_le hd with h | hlt
          · subst h; exact HNE.out
          · exact HU.out.ne d' hlt hm))
        have HCA1 := Lib.hid (HC1.out e hem (fun d' hd hm => by
          rcases Nat.eq_or_lt_of_le hd with h | hlt
          · subst h; exact HNE.out
          · exact HU.out.ne d' hlt hm))
        obtain ⟨c0, hc0⟩ : ∃ c, S.ch e (pre S.m e x) 0 = c := ⟨_, rfl⟩
        obtain ⟨c1, hc1⟩ : ∃ c, S.ch e (pre S.m e x) 1 = c := ⟨_, rfl⟩
        rw [hc0] at HCA0 HW0 yc0
        rw [hc1] at HCA1 HW1 yc1
        have HE0 := Lib.hid hc0
        have HE1 := Lib.hid hc1
        clear hc0 hc1
        go_wp2_with fail
        rw [neq_po HLB.out HLR.out, hbr']
        go_upto_region 2 with fail
        rcases HCA1.out with hn1 | hi1 | hx1
        · subst hn1
          have HII1 := Lib.hid (isInternal_nil wr)
          have yd1 : wr.cell? ⟨b, 2, none⟩ = some (.pointer none) := yc1
          have HFN1 : Hid (fin S bx none su = su) := Lib.hid fin_nil
          clear yc1
          by_cases hv1 : su = none
          · have hv1' : (su == none) = true := by simpa using hv1
            have HMN1 : Hid (Mem wr (S.w (upd f e (pre S.m e x) 1 su))) := Lib.hid (side_skip HMU.out (by exact HW1.out.trans hv1.symm))
            clear hv1
            go_wp2_with fail
            refine HII1.out.mono ?_
            rintro en wq1 ⟨rfl, rfl⟩
            go_wp2_with fail
            rw [neq_noq HQsu.out, hv1']
            go_upto_region 4 with fail
            rcases HCA0.out with hn0 | hi0 | hx0
            · subst hn0
              have HII0 := Lib.hid (isInternal_nil wr)
              have yd0 : wr.cell? ⟨b, 1, none⟩ = some (.pointer none) := yc0
              have HFN0 : Hid (fin S bx none pr = pr) := Lib.hid fin_nil
              clear yc0
              by_cases hv0 : pr = none
              · have hv0' : (pr == none) = true := by simpa using hv0
                have HMN0 : Hid (Mem wr (S.w (upd (upd f e (pre S.m e x) 1 su) e (pre S.m e x) 0 pr))) := Lib.hid (side_skip HMN1.out (by rw [upd_other _ _ _ _ _ (by omega)]; exact HW0.out.trans hv0.symm))
                clear hv0
                go_wp2_with fail
                refine HII0.out.mono ?_
                rintro en wq0 ⟨rfl, rfl⟩
                go_wp2_with fail
                rw [neq_noq HQpr.out, hv0']
                have HUN := Lib.hid (HU.out.step hem HNE.out (Only.refl _ _) ((congrArg (fun c => fin S bx c pr) HE0.out).trans HFN0.out) ((congrArg (fun c => fin S bx c su) HE1.out).trans HFN1.out) HMN0.out)
                go_wp2_with fail
                go_roundg e
                case measure => omega
                case rel => exact ⟨e, _, Nat.le_refl _, by omega, HNV.out.symm, HUN⟩
              · have hv0' : (pr == none) = false := by
                  cases hz : pr with
                  | none => exact absurd hz hv0
                  | some _ => rfl
                have HMN0 : Hid (Mem (wr.setCell ⟨b, 1, none⟩ (.pointer qpr)) (S.w (upd (upd f e (pre S.m e x) 1 su) e (pre S.m e x) 0 pr))) := Lib.hid (by
                  have h := HMN1.out.put HI.out (by omega) HB.out (by omega) (s := 0) pr
                  rwa [op_pa, HQpr.out] at h)
                clear hv0
                go_wp2_with fail
                refine HII0.out.mono ?_
                rintro en wq0 ⟨rfl, rfl⟩
                go_wp2_with fail
                rw [neq_noq HQpr.out, hv0']
                go_wp2_with fail
                rw [neq_np]
                have HUN := Lib.hid (HU.out.step hem HNE.out ((Only.refl _ _).setCell _ _ (fun _ => ⟨e, _, hem, HB.out⟩)) ((congrArg (fun c => fin S bx c pr) HE0.out).trans HFN0.out) ((congrArg (fun c => fin S bx c su) HE1.out).trans HFN1.out) HMN0.out)
                go_wp2_with fail
                go_roundg e
                case measure => omega
                case rel => exact ⟨e, _, Nat.le_refl _, by omega, HNV.out.symm, HUN⟩
            · obtain ⟨d0, p0, hd0, hq0, hne0⟩ := hi0
              obtain ⟨bi0, hbi0⟩ : ∃ b, S.lk d0 p0 = some b := by
                cases hb : S.lk d0 p0 with
                | none => rw [hb] at hq0; exact absurd hq0 hne0
                | some b => exact ⟨b, rfl⟩
              have HFN0 : Hid (fin S bx c0 pr = some bi0) := Lib.hid ((fin_in ⟨d0, p0, hd0, hq0, hne0⟩).trans (hq0.trans hbi0))
              rw [hbi0] at hq0
              subst hq0
              have HII0 := Lib.hid (isInternal_in wr bi0 _ _ _ (Mem.inner (S := S.w (upd f e (pre S.m e x) 1 su)) HMN1.out hd0 hbi0))
              have yd0 : wr.cell? ⟨b, 1, none⟩ = some (pb bi0) := yc0
              have HMN0 : Hid (Mem wr (S.w (upd (upd f e (pre S.m e x) 1 su) e (pre S.m e x) 0 (some bi0)))) := Lib.hid (side_skip HMN1.out (by rw [upd_other _ _ _ _ _ (by omega)]; exact HW0.out))
              clear yc0 hbi0 hd0 hne0
              go_wp2_with fail
              refine HII0.out.mono ?_
              rintro en wq0 ⟨rfl, rfl⟩
              have HUN := Lib.hid (HU.out.step hem HNE.out (Only.refl _ _) ((congrArg (fun c => fin S bx c pr) HE0.out).trans HFN0.out) ((congrArg (fun c => fin S bx c su) HE1.out).trans HFN1.out) HMN0.out)
              go_wp2_with fail
              go_roundg e
              case measure => omega
              case rel => exact ⟨e, _, Nat.le_refl _, by omega, HNV.out.symm, HUN⟩
            · subst hx0
              have HFN0 : Hid (fin S bx (some bx) pr = some bx) := Lib.hid fin_bx
              have HII0 := Lib.hid (isInternal_leaf wr bx x _ _ _ _ (Mem.leaf (S := S.w (upd f e (pre S.m e x) 1 su)) HMN1.out HBX.out))
              have HLI0 := Lib.hid ((Mem.leaf (S := S.w (upd f e (pre S.m e x) 1 su)) HMN1.out HBX.out).liv)
              have HLV0 : Hid (∀ u, pr = some u → Liv wr u) := Lib.hid (fun u hu => by
                rcases HPR.out with h | ⟨k, hk, h⟩
                · rw [h] at hu; cases hu
                · exact (Mem.leaf (S := S.w (upd f e (pre S.m e x) 1 su)) HMN1.out (h.symm.trans hu)).liv)
              have yd0 : wr.cell? ⟨b, 1, none⟩ = some (pb bx) := yc0
              have HMN0 : Hid (Mem wr (S.w (upd (upd f e (pre S.m e x) 1 su) e (pre S.m e x) 0 (some bx)))) := Lib.hid (side_skip HMN1.out (by rw [upd_other _ _ _ _ _ (by omega)]; exact HW0.out))
              clear yc0
              go_wp2_with fail
              refine HII0.out.mono ?_
              rintro en wq0 ⟨rfl, rfl⟩
              go_wp2_with fail
              rw [neq_poq HQpr.out HLI0.out HLV0.out, eprx]
              go_wp2_with fail
              rw [neq_pp HLI0.out HLI0.out, beq_self_eq_true]
              have HUN := Lib.hid (HU.out.step hem HNE.out (Only.refl _ _) ((congrArg (fun c => fin S bx c pr) HE0.out).trans HFN0.out) ((congrArg (fun c => fin S bx c su) HE1.out).trans HFN1.out) HMN0.out)
              go_wp2_with fail
              go_roundg e
              case measure => omega
              case rel => exact ⟨e, _, Nat.le_refl _, by omega, HNV.out.symm, HUN⟩
          · have hv1' : (su == none) = false := by
              cases hz : su with
              | none => exact absurd hz hv1
              | some _ => rfl
            have HMN1 : Hid (Mem (wr.setCell ⟨b, 2, none⟩ (.pointer qsu)) (S.w (upd f e (pre S.m e x) 1 su))) := Lib.hid (by
              have h := HMU.out.put HI.out (by omega) HB.out (by omega) (s := 1) su
              rwa [op_pa, HQsu.out] at h)
            clear hv1
            go_wp2_with fail
            refine HII1.out.mono ?_
            rintro en wq1 ⟨rfl, rfl⟩
            go_wp2_with fail
            rw [neq_noq HQsu.out, hv1']
            go_wp2_with fail
            rw [neq_np]
            obtain ⟨wv, hwv⟩ : ∃ wv, (wr.setCell ⟨b, 2, none⟩ (.pointer qsu)) = wv := ⟨_, rfl⟩
            have HOV : Hid (Only (Inn S) wr wv) := Lib.hid (by rw [← hwv]; exact ((Only.refl _ _).setCell _ _ (fun _ => ⟨e, _, hem, HB.out⟩)))
            rw [hwv] at HMN1
            go_upto_region 4 with fail
            have hnv2 : Nd wv b .nilIface ((upd f e (pre S.m e x) 1 su) e (pre S.m e x) 0) ((upd f e (pre S.m e x) 1 su) e (pre S.m e x) 1) (S.par e (pre S.m e x)) := Mem.inner (S := S.w (upd f e (pre S.m e x) 1 su)) HMN1.out hem HB.out
            have yc0 := hnv2.c0
            rw [upd_other _ _ _ _ _ (by omega), HW0.out] at yc0
            have y3 := hnv2.p
            rw [par_up hem, HNV.out] at y3
            have lb := hnv2.lt
            have fb := hnv2.fr
            clear hnv2 hwv
            rcases HCA0.out with hn0 | hi0 | hx0
            · subst hn0
              have HII0 := Lib.hid (isInternal_nil wv)
              have yd0 : wv.cell? ⟨b, 1, none⟩ = some (.pointer none) := yc0
              have HFN0 : Hid (fin S bx none pr = pr) := Lib.hid fin_nil
              clear yc0
              by_cases hv0 : pr = none
              · have hv0' : (pr == none) = true := by simpa using hv0
                have HMN0 : Hid (Mem wv (S.w (upd (upd f e (pre S.m e x) 1 su) e (pre S.m e x) 0 pr))) := Lib.hid (side_skip HMN1.out (by rw [upd_other _ _ _ _ _ (by omega)]; exact HW0.out.trans hv0.symm))
                clear hv0
                go_wp2_with fail
                refine HII0.out.mono ?_
                rintro en wq0 ⟨rfl, rfl⟩
                go_wp2_with fail
                rw [neq_noq HQpr.out, hv0']
                have HUN := Lib.hid (HU.out.step hem HNE.out (HOV.out) ((congrArg (fun c => fin S bx c pr) HE0.out).trans HFN0.out) ((congrArg (fun c => fin S bx c su) HE1.out).trans HFN1.out) HMN0.out)
                go_wp2_with fail
                go_roundg e
                case measure => omega
                case rel => exact ⟨e, _, Nat.le_refl _, by omega, HNV.out.symm, HUN⟩
              · have hv0' : (pr == none) = false := by
                  cases hz : pr with
                  | none => exact absurd hz hv0
                  | some _ => rfl
                have HMN0 : Hid (Mem (wv.setCell ⟨b, 1, none⟩ (.pointer qpr)) (S.w (upd (upd f e (pre S.m e x) 1 su) e (pre S.m e x) 0 pr))) := Lib.hid (by
                  have h := HMN1.out.put HI.out (by omega) HB.out (by omega) (s := 0) pr
                  rwa [op_pa, HQpr.out] at h)
                clear hv0
                go_wp2_with fail
                refine HII0.out.mono ?_
                rintro en wq0 ⟨rfl, rfl⟩
                go_wp2_with fail
                rw [neq_noq HQpr.out, hv0']
                go_wp2_with fail
                rw [neq_np]
                have HUN := Lib.hid (HU.out.step hem HNE.out ((HOV.out).setCell _ _ (fun _ => ⟨e, _, hem, HB.out⟩)) ((congrArg (fun c => fin S bx c pr) HE0.out).trans HFN0.out) ((congrArg (fun c => fin S bx c su) HE1.out).trans HFN1.out) HMN0.out)
                go_wp2_with fail
                go_roundg e
                case measure => omega
                case rel => exact ⟨e, _, Nat.le_refl _, by omega, HNV.out.symm, HUN⟩
            · obtain ⟨d0, p0, hd0, hq0, hne0⟩ := hi0
              obtain ⟨bi0, hbi0⟩ : ∃ b, S.lk d0 p0 = some b := by
                cases hb : S.lk d0 p0 with
                | none => rw [hb] at hq0; exact absurd hq0 hne0
                | some b => exact ⟨b, rfl⟩
              have HFN0 : Hid (fin S bx c0 pr = some bi0) := Lib.hid ((fin_in ⟨d0, p0, hd0, hq0, hne0⟩).trans (hq0.trans hbi0))
              rw [hbi0] at hq0
              subst hq0
              have HII0 := Lib.hid (isInternal_in wv bi0 _ _ _ (Mem.inner (S := S.w (upd f e (pre S.m e x) 1 su)) HMN1.out hd0 hbi0))
              have yd0 : wv.cell? ⟨b, 1, none⟩ = some (pb bi0) := yc0
              have HMN0 : Hid (Mem wv (S.w (upd (upd f e (pre S.m e x) 1 su) e (pre S.m e x) 0 (some bi0)))) := Lib.hid (side_skip HMN1.out (by rw [upd_other _ _ _ _ _ (by omega)]; exact HW0.out))
              clear yc0 hbi0 hd0 hne0
              go_wp2_with fail
              refine HII0.out.mono ?_
              rintro en wq0 ⟨rfl, rfl⟩
              have HUN := Lib.hid (HU.out.step hem HNE.out (HOV.out) ((congrArg (fun c => fin S bx c pr) HE0.out).trans HFN0.out) ((congrArg (fun c => fin S bx c su) HE1.out).trans HFN1.out) HMN0.out)
              go_wp2_with fail
              go_roundg e
              case measure => omega
              case rel => exact ⟨e, _, Nat.le_refl _, by omega, HNV.out.symm, HUN⟩
            · subst hx0
              have HFN0 : Hid (fin S bx (some bx) pr = some bx) := Lib.hid fin_bx
              have HII0 := Lib.hid (isInternal_leaf wv bx x _ _ _ _ (Mem.leaf (S := S.w (upd f e (pre S.m e x) 1 su)) HMN1.out HBX.out))
              have HLI0 := Lib.hid ((Mem.leaf (S := S.w (upd f e (pre S.m e x) 1 su)) HMN1.out HBX.out).liv)
              have HLV0 : Hid (∀ u, pr = some u → Liv wv u) := Lib.hid (fun u hu => by
                rcases HPR.out with h | ⟨k, hk, h⟩
                · rw [h] at hu; cases hu
                · exact (Mem.leaf (S := S.w (upd f e (pre S.m e x) 1 su)) HMN1.out (h.symm.trans hu)).liv)
              have yd0 : wv.cell? ⟨b, 1, none⟩ = some (pb bx) := yc0
              have HMN0 : Hid (Mem wv (S.w (upd (upd f e (pre S.m e x) 1 su) e (pre S.m e x) 0 (some bx)))) := Lib.hid (side_skip HMN1.out (by rw [upd_other _ _ _ _ _ (by omega)]; exact HW0.out))
              clear yc0
              go_wp2_with fail
              refine HII0.out.mono ?_
              rintro en wq0 ⟨rfl, rfl⟩
              go_wp2_with fail
              rw [neq_poq HQpr.out HLI0.out HLV0.out, eprx]
              go_wp2_with fail
              rw [neq_pp HLI0.out HLI0.out, beq_self_eq_true]
              have HUN := Lib.hid (HU.out.step hem HNE.out (HOV.out) ((congrArg (fun c => fin S bx c pr) HE0.out).trans HFN0.out) ((congrArg (fun c => fin S bx c su) HE1.out).trans HFN1.out) HMN0.out)
              go_wp2_with fail
              go_roundg e
              case measure => omega
              case rel => exact ⟨e, _, Nat.le_refl _, by omega, HNV.out.symm, HUN⟩
        · obtain ⟨d1, p1, hd1, hq1, hne1⟩ := hi1
          obtain ⟨bi1, hbi1⟩ : ∃ b, S.lk d1 p1 = some b := by
            cases hb : S.lk d1 p1 with
            | none => rw [hb] at hq1; exact absurd hq1 hne1
            | some b => exact ⟨b, rfl⟩
          have HFN1 : Hid (fin S bx c1 su = some bi1) := Lib.hid ((fin_in ⟨d1, p1, hd1, hq1, hne1⟩).trans (hq1.trans hbi1))
          rw [hbi1] at hq1
          subst hq1
          have HII1 := Lib.hid (isInternal_in wr bi1 _ _ _ (Mem.inner (S := S.w f) HMU.out hd1 hbi1))
          have yd1 : wr.cell? ⟨b, 2, none⟩ = some (pb bi1) := yc1
          have HMN1 : Hid (Mem wr (S.w (upd f e (pre S.m e x) 1 (some bi1)))) := Lib.hid (side_skip HMU.out (by exact HW1.out))
          clear yc1 hbi1 hd1 hne1
          go_wp2_with fail
          refine HII1.out.mono ?_
          rintro en wq1 ⟨rfl, rfl⟩
          go_upto_region 4 with fail
          rcases HCA0.out with hn0 | hi0 | hx0
          · subst hn0
            have HII0 := Lib.hid (isInternal_nil wr)
            have yd0 : wr.cell? ⟨b, 1, none⟩ = some (.pointer none) := yc0
            have HFN0 : Hid (fin S bx none pr = pr) := Lib.hid fin_nil
            clear yc0
            by_cases hv0 : pr = none
            · have hv0' : (pr == none) = true := by simpa using hv0
              have HMN0 : Hid (Mem wr (S.w (upd (upd f e (pre S.m e x) 1 (some bi1)) e (pre S.m e x) 0 pr))) := Lib.hid (side_skip HMN1.out (by rw [upd_other _ _ _ _ _ (by omega)]; exact HW0.out.trans hv0.symm))
              clear hv0
              go_wp2_with fail
              refine HII0.out.mono ?_
              rintro en wq0 ⟨rfl, rfl⟩
              go_wp2_with fail
              rw [neq_noq HQpr.out, hv0']
              have HUN := Lib.hid (HU.out.step hem HNE.out (Only.refl _ _) ((congrArg (fun c => fin S bx c pr) HE0.out).trans HFN0.out) ((congrArg (fun c => fin S bx c su) HE1.out).trans HFN1.out) HMN0.out)
              go_wp2_with fail
              go_roundg e
              case measure => omega
              case rel => exact ⟨e, _, Nat.le_refl _, by omega, HNV.out.symm, HUN⟩
            · have hv0' : (pr == none) = false := by
                cases hz : pr with
                | none => exact absurd hz hv0
                | some _ => rfl
              have HMN0 : Hid (Mem (wr.setCell ⟨b, 1, none⟩ (.pointer qpr)) (S.w (upd (upd f e (pre S.m e x) 1 (some bi1)) e (pre S.m e x) 0 pr))) := Lib.hid (by
                have h := HMN1.out.put HI.out (by omega) HB.out (by omega) (s := 0) pr
                rwa [op_pa, HQpr.out] at h)
              clear hv0
              go_wp2_with fail
              refine HII0.out.mono ?_
              rintro en wq0 ⟨rfl, rfl⟩
              go_wp2_with fail
              rw [neq_noq HQpr.out, hv0']
              go_wp2_with fail
              rw [neq_np]
              have HUN := Lib.hid (HU.out.step hem HNE.out ((Only.refl _ _).setCell _ _ (fun _ => ⟨e, _, hem, HB.out⟩)) ((congrArg (fun c => fin S bx c pr) HE0.out).trans HFN0.out) ((congrArg (fun c => fin S bx c su) HE1.out).trans HFN1.out) HMN0.out)
              go_wp2_with fail
              go_roundg e
              case measure => omega
              case rel => exact ⟨e, _, Nat.le_refl _, by omega, HNV.out.symm, HUN⟩
          · obtain ⟨d0, p0, hd0, hq0, hne0⟩ := hi0
            obtain ⟨bi0, hbi0⟩ : ∃ b, S.lk d0 p0 = some b := by
              cases hb : S.lk d0 p0 with
              | none => rw [hb] at hq0; exact absurd hq0 hne0
              | some b => exact ⟨b, rfl⟩
            have HFN0 : Hid (fin S bx c0 pr = some bi0) := Lib.hid ((fin_in ⟨d0, p0, hd0, hq0, hne0⟩).trans (hq0.trans hbi0))
            rw [hbi0] at hq0
            subst hq0
            have HII0 := Lib.hid (isInternal_in wr bi0 _ _ _ (Mem.inner (S := S.w (upd f e (pre S.m e x) 1 (some bi1))) HMN1.out hd0 hbi0))
            have yd0 : wr.cell? ⟨b, 1, none⟩ = some (pb bi0) := yc0
            have HMN0 : Hid (Mem wr (S.w (upd (upd f e (pre S.m e x) 1 (some bi1)) e (pre S.m e x) 0 (some bi0)))) := Lib.hid (side_skip HMN1.out (by rw [upd_other _ _ _ _ _ (by omega)]; exact HW0.out))
            clear yc0 hbi0 hd0 hne0
            go_wp2_with fail
            refine HII0.out.mono ?_
            rintro en wq0 ⟨rfl, rfl⟩
            have HUN := Lib.hid (HU.out.step hem HNE.out (Only.refl _ _) ((congrArg (fun c => fin S bx c pr) HE0.out).trans HFN0.out) ((congrArg (fun c => fin S bx c su) HE1.out).trans HFN1.out) HMN0.out)
            go_wp2_with fail
            go_roundg e
            case measure => omega
            case rel => exact ⟨e, _, Nat.le_refl _, by omega, HNV.out.symm, HUN⟩
          · subst hx0
            have HFN0 : Hid (fin S bx (some bx) pr = some bx) := Lib.hid fin_bx
            have HII0 := Lib.hid (isInternal_leaf wr bx x _ _ _ _ (Mem.leaf (S := S.w (upd f e (pre S.m e x) 1 (some bi1))) HMN1.out HBX.out))
            have HLI0 := Lib.hid ((Mem.leaf (S := S.w (upd f e (pre S.m e x) 1 (some bi1))) HMN1.out HBX.out).liv)
            have HLV0 : Hid (∀ u, pr = some u → Liv wr u) := Lib.hid (fun u hu => by
              rcases HPR.out with h | ⟨k, hk, h⟩
              · rw [h] at hu; cases hu
              · exact (Mem.leaf (S := S.w (upd f e (pre S.m e x) 1 (some bi1))) HMN1.out (h.symm.trans hu)).liv)
            have yd0 : wr.cell? ⟨b, 1, none⟩ = some (pb bx) := yc0
            have HMN0 : Hid (Mem wr (S.w (upd (upd f e (pre S.m e x) 1 (some bi1)) e (pre S.m e x) 0 (some bx)))) := Lib.hid (side_skip HMN1.out (by rw [upd_other _ _ _ _ _ (by omega)]; exact HW0.out))
            clear yc0
            go_wp2_with fail
            refine HII0.out.mono ?_
            rintro en wq0 ⟨rfl, rfl⟩
            go_wp2_with fail
            rw [neq_poq HQpr.out HLI0.out HLV0.out, eprx]
            go_wp2_with fail
            rw [neq_pp HLI0.out HLI0.out, beq_self_eq_true]
            have HUN := Lib.hid (HU.out.step hem HNE.out (Only.refl _ _) ((congrArg (fun c => fin S bx c pr) HE0.out).trans HFN0.out) ((congrArg (fun c => fin S bx c su) HE1.out).trans HFN1.out) HMN0.out)
            go_wp2_with fail
            go_roundg e
            case measure => omega
            case rel => exact ⟨e, _, Nat.le_refl _, by omega, HNV.out.symm, HUN⟩
        · subst hx1
          have HFN1 : Hid (fin S bx (some bx) su = some bx) := Lib.hid fin_bx
          have HII1 := Lib.hid (isInternal_leaf wr bx x _ _ _ _ (Mem.leaf (S := S.w f) HMU.out HBX.out))
          have HLI1 := Lib.hid ((Mem.leaf (S := S.w f) HMU.out HBX.out).liv)
          have HLV1 : Hid (∀ u, su = some u → Liv wr u) := Lib.hid (fun u hu => by
            rcases HSU.out with h | ⟨k, hk, h⟩
            · rw [h] at hu; cases hu
            · exact (Mem.leaf (S := S.w f) HMU.out (h.symm.trans hu)).liv)
          have yd1 : wr.cell? ⟨b, 2, none⟩ = some (pb bx) := yc1
          have HMN1 : Hid (Mem wr (S.w (upd f e (pre S.m e x) 1 (some bx)))) := Lib.hid (side_skip HMU.out (by exact HW1.out))
          clear yc1
          go_wp2_with fail
          refine HII1.out.mono ?_
          rintro en wq1 ⟨rfl, rfl⟩
          go_wp2_with fail
          rw [neq_poq HQsu.out HLI1.out HLV1.out, esux]
          go_wp2_with fail
          rw [neq_pp HLI1.out HLI1.out, beq_self_eq_true]
          go_upto_region 4 with fail
          rcases HCA0.out with hn0 | hi0 | hx0
          · subst hn0
            have HII0 := Lib.hid (isInternal_nil wr)
            have yd0 : wr.cell? ⟨b, 1, none⟩ = some (.pointer none) := yc0
            have HFN0 : Hid (fin S bx none pr = pr) := Lib.hid fin_nil
            clear yc0
            by_cases hv0 : pr = none
            · have hv0' : (pr == none) = true := by simpa using hv0
              have HMN0 : Hid (Mem wr (S.w (upd (upd f e (pre S.m e x) 1 (some bx)) e (pre S.m e x) 0 pr))) := Lib.hid (side_skip HMN1.out (by rw [upd_other _ _ _ _ _ (by omega)]; exact HW0.out.trans hv0.symm))
              clear hv0
              go_wp2_with fail
              refine HII0.out.mono ?_
              rintro en wq0 ⟨rfl, rfl⟩
              go_wp2_with fail
              rw [neq_noq HQpr.out, hv0']
              have HUN := Lib.hid (HU.out.step hem HNE.out (Only.refl _ _) ((congrArg (fun c => fin S bx c pr) HE0.out).trans HFN0.out) ((congrArg (fun c => fin S bx c su) HE1.out).trans HFN1.out) HMN0.out)
              go_wp2_with fail
              go_roundg e
              case measure => omega
              case rel => exact ⟨e, _, Nat.le_refl _, by omega, HNV.out.symm, HUN⟩
            · have hv0' : (pr == none) = false := by
                cases hz : pr with
                | none => exact absurd hz hv0
                | some _ => rfl
              have HMN0 : Hid (Mem (wr.setCell ⟨b, 1, none⟩ (.pointer qpr)) (S.w (upd (upd f e (pre S.m e x) 1 (some bx)) e (pre S.m e x) 0 pr))) := Lib.hid (by
                have h := HMN1.out.put HI.out (by omega) HB.out (by omega) (s := 0) pr
                rwa [op_pa, HQpr.out] at h)
              clear hv0
              go_wp2_with fail
              refine HII0.out.mono ?_
              rintro en wq0 ⟨rfl, rfl⟩
              go_wp2_with fail
              rw [neq_noq HQpr.out, hv0']
              go_wp2_with fail
              rw [neq_np]
              have HUN := Lib.hid (HU.out.step hem HNE.out ((Only.refl _ _).setCell _ _ (fun _ => ⟨e, _, hem, HB.out⟩)) ((congrArg (fun c => fin S bx c pr) HE0.out).trans HFN0.out) ((congrArg (fun c => fin S bx c su) HE1.out).trans HFN1.out) HMN0.out)
              go_wp2_with fail
              go_roundg e
              case measure => omega
              case rel => exact ⟨e, _, Nat.le_refl _, by omega, HNV.out.symm, HUN⟩
          · obtain ⟨d0, p0, hd0, hq0, hne0⟩ := hi0
            obtain ⟨bi0, hbi0⟩ : ∃ b, S.lk d0 p0 = some b := by
              cases hb : S.lk d0 p0 with
              | none => rw [hb] at hq0; exact absurd hq0 hne0
              | some b => exact ⟨b, rfl⟩
            have HFN0 : Hid (fin S bx c0 pr = some bi0) := Lib.hid ((fin_in ⟨d0, p0, hd0, hq0, hne0⟩).trans (hq0.trans hbi0))
            rw [hbi0] at hq0
            subst hq0
            have HII0 := Lib.hid (isInternal_in wr bi0 _ _ _ (Mem.inner (S := S.w (upd f e (pre S.m e x) 1 (some bx))) HMN1.out hd0 hbi0))
            have yd0 : wr.cell? ⟨b, 1, none⟩ = some (pb bi0) := yc0
            have HMN0 : Hid (Mem wr (S.w (upd (upd f e (pre S.m e x) 1 (some bx)) e (pre S.m e x) 0 (some bi0)))) := Lib.hid (side_skip HMN1.out (by rw [upd_other _ _ _ _ _ (by omega)]; exact HW0.out))
            clear yc0 hbi0 hd0 hne0
            go_wp2_with fail
            refine HII0.out.mono ?_
            rintro en wq0 ⟨rfl, rfl⟩
            have HUN := Lib.hid (HU.out.step hem HNE.out (Only.refl _ _) ((congrArg (fun c => fin S bx c pr) HE0.out).trans HFN0.out) ((congrArg (fun c => fin S bx c su) HE1.out).trans HFN1.out) HMN0.out)
            go_wp2_with fail
            go_roundg e
            case measure => omega
            case rel => exact ⟨e, _, Nat.le_refl _, by omega, HNV.out.symm, HUN⟩
          · subst hx0
            have HFN0 : Hid (fin S bx (some bx) pr = some bx) := Lib.hid fin_bx
            have HII0 := Lib.hid (isInternal_leaf wr bx x _ _ _ _ (Mem.leaf (S := S.w (upd f e (pre S.m e x) 1 (some bx))) HMN1.out HBX.out))
            have HLI0 := Lib.hid ((Mem.leaf (S := S.w (upd f e (pre S.m e x) 1 (some bx))) HMN1.out HBX.out).liv)
            have HLV0 : Hid (∀ u, pr = some u → Liv wr u) := Lib.hid (fun u hu => by
              rcases HPR.out with h | ⟨k, hk, h⟩
              · rw [h] at hu; cases hu
              · exact (Mem.leaf (S := S.w (upd f e (pre S.m e x) 1 (some bx))) HMN1.out (h.symm.trans hu)).liv)
            have yd0 : wr.cell? ⟨b, 1, none⟩ = some (pb bx) := yc0
            have HMN0 : Hid (Mem wr (S.w (upd (upd f e (pre S.m e x) 1 (some bx)) e (pre S.m e x) 0 (some bx)))) := Lib.hid (side_skip HMN1.out (by rw [upd_other _ _ _ _ _ (by omega)]; exact HW0.out))
            clear yc0
            go_wp2_with fail
            refine HII0.out.mono ?_
            rintro en wq0 ⟨rfl, rfl⟩
            go_wp2_with fail
            rw [neq_poq HQpr.out HLI0.out HLV0.out, eprx]
            go_wp2_with fail
            rw [neq_pp HLI0.out HLI0.out, beq_self_eq_true]
            have HUN := Lib.hid (HU.out.step hem HNE.out (Only.refl _ _) ((congrArg (fun c => fin S bx c pr) HE0.out).trans HFN0.out) ((congrArg (fun c => fin S bx c su) HE1.out).trans HFN1.out) HMN0.out)
            go_wp2_with fail
            go_roundg e
            case measure => omega
            case rel => exact ⟨e, _, Nat.le_refl _, by omega, HNV.out.symm, HUN⟩
end Go.Proofs.YtcjifjfcjimefaaDoor.xf

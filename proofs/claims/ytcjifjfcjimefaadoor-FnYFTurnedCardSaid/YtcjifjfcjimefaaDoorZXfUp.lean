/-
  Walking up from a leaf: a further leaf becomes a thread of inner nodes.
-/
import Derived.Test.YtcjifjfcjimefaaDoorMB
namespace Go.Proofs.YtcjifjfcjimefaaDoor.xf
open Go.RowKit Go.Proofs.YtcjifjfcjimefaaDoor.base Go.Proofs.YtcjifjfcjimefaaDoor.heap Go.Proofs.YtcjifjfcjimefaaDoor.rows Go.Proofs.YtcjifjfcjimefaaDoor.mapn
set_option linter.unusedVariables false
variable [Inhabited Kd]

set_option maxRecDepth 100000 in
set_option maxHeartbeats 3200000 in
theorem walkUpS (w : World) (S : Sh) (tb bx ks bs : Nat) (rt : Option Nat) (hM : Mem w S) (hi : Inj S) (hm : 1 ≤ S.m) (hup : ∀ d, d ≤ S.m → S.lk d (pre S.m d ks) ≠ none) (hbs : S.lk S.m ks = some bs) (hc : ∀ d, d < S.m → ChOk S (S.ch d (pre S.m d ks) 0)) (hrt : rt = none ∨ ∃ d p, d < S.m ∧ rt = S.lk d p) :
    Calls Tryd.prog 66 #[op (some tb), op rt, op (some bx), op (some bs)] w (UpP S 0 ks rt bx w) := by
  have HI0 : Hid (UpI S 0 ks rt bx w w S.m S.ch) := Lib.hid ⟨hM, Only.refl _ _, fun d p t => .inl rfl, fun d p hd => rfl, fun d hd hm hn => by omega, fun d hd hm => by omega⟩
  have hn := hM.leaf hbs
  have y3 := hn.p
  have lbs := hn.lt
  have HI := Lib.hid hi
  have HUP := Lib.hid hup
  have HBS := Lib.hid hbs
  have HC := Lib.hid hc
  have HRT := Lib.hid hrt
  have hpar : S.par S.m ks = if S.m = 0 then none else S.lk (S.m - 1) (pre S.m (S.m - 1) ks) := by
    obtain ⟨e, he⟩ : ∃ e, S.m = e + 1 := ⟨S.m - 1, by omega⟩
    have h1 := pre_half (m := S.m) (d := e) (k := ks) (by omega)
    rw [← he, pre_full] at h1
    rw [if_neg (by omega), he, Nat.add_sub_cancel, ← he, ← h1]
    show S.par S.m ks = S.lk e (ks / 2)
    rw [he]; rfl
  obtain ⟨nv, hnv⟩ : ∃ nv, op (if S.m = 0 then none else S.lk (S.m - 1) (pre S.m (S.m - 1) ks)) = nv := ⟨_, rfl⟩
  rw [hpar, hnv] at y3
  have HNV := Lib.hid hnv
  clear hM hi hup hbs hc hrt hn hpar hnv
  show Calls Tryd.prog 66 #[pb tb, op rt, pb bx, pb bs] w _
  go_enter Tryd.func66, Tryd.ntmps66
  go_wp2_with fail
  go_loopg [8] S.m (fun kx nv wr => ∃ (j : Nat) (f : Cf), j ≤ kx ∧ j ≤ S.m ∧ nv = op (if j = 0 then none else S.lk (j - 1) (pre S.m (j - 1) ks)) ∧ Hid (UpI S 0 ks rt bx w wr j f))
  case atStart => exact ⟨S.m, S.ch, Nat.le_refl _, Nat.le_refl _, HNV.out.symm, HI0⟩
  case round =>
    clear HI0
    obtain ⟨j, f, hj, hjm, rfl, HU⟩ := hrel
    rcases Nat.eq_zero_or_pos j with h0 | h0
    · subst h0
      rw [if_pos rfl, show op (none : Option Nat) = Value.pointer none from rfl]
      go_wp2_with fail
      go_end0
      exact ⟨rfl, f, HU.out.mem, HU.out.only, HU.out.ch, fun d hd hne hn => HU.out.done d (Nat.zero_le _) hd hn⟩
    · obtain ⟨e, rfl⟩ : ∃ e, j = e + 1 := ⟨j - 1, by omega⟩
      obtain ⟨b, hb⟩ : ∃ b, S.lk e (pre S.m e ks) = some b := by
        cases hb : S.lk e (pre S.m e ks) with
        | none => exact absurd hb (HUP.out e (by omega))
        | some b => exact ⟨b, rfl⟩
      have HB := Lib.hid hb
      rw [if_neg (by omega), Nat.add_sub_cancel, hb, show op (some b) = pb b from rfl]
      have hnb : Nd wr b .nilIface (f e (pre S.m e ks) 0) (f e (pre S.m e ks) 1) (S.par e (pre S.m e ks)) := Mem.inner (S := S.w f) HU.out.mem (by show e < S.m; omega) hb
      have hns : Nd wr bs (item ks (S.ent ks)) (f S.m ks 0) (f S.m ks 1) (S.par S.m ks) := Mem.leaf (S := S.w f) HU.out.mem HBS.out
      have HLB := Lib.hid hnb.liv
      have HLS := Lib.hid hns.liv
      have HNB := Lib.hid hnb
      have y3 := hnb.p
      rw [par_up (by omega)] at y3
      obtain ⟨nv, hnv⟩ : ∃ nv, op (if e = 0 then none else S.lk (e - 1) (pre S.m (e - 1) ks)) = nv := ⟨_, rfl⟩
      rw [hnv] at y3
      have HNV := Lib.hid hnv
      have lb := hnb.lt
      have fb := hnb.fr
      have hlow := HU.out.low e (pre S.m e ks) (Nat.lt_succ_self _)
      have yc := hnb.c0
      rw [hlow] at yc
      obtain ⟨c, hcc⟩ : ∃ c, S.ch e (pre S.m e ks) 0 = c := ⟨_, rfl⟩
      have HCC := Lib.hid hcc
      have hok := HC.out e (by omega)
      rw [hcc] at hok yc
      have HOKC := Lib.hid hok
      clear hnb hns hnv hlow hcc hok hb
      have hRT := HRT.out
      cases rt with
      | none =>
        rw [show op (none : Option Nat) = Value.pointer none from rfl]
        have HNE : Hid (S.lk e (pre S.m e ks) ≠ none) := Lib.hid (HUP.out e (by omega))
        clear hRT
        go_upto_region 2 with fail
        rcases HOKC.out with (hc0 | ⟨k, hk, hc0⟩) | ⟨d, p, hd, hc0, hne⟩
        · subst hc0
          have HII := Lib.hid (isInternal_nil wr)
          have yc' : wr.cell? ⟨b, 1, none⟩ = some (.pointer none) := yc
          have HUN := Lib.hid (HU.out.set HI.out (by omega) (by omega) HB.out HNE.out (by rw [HCC.out]; exact .inl rfl))
          clear yc
          go_wp2_with fail
          refine HII.out.mono ?_
          rintro en w5 ⟨rfl, rfl⟩
          go_wp2_with fail
          rw [neq_np]
          go_wp2_with fail
          go_roundg e
          case measure => omega
          case rel => exact ⟨e, _, Nat.le_refl _, by omega, HNV.out.symm, HUN⟩
        · obtain ⟨bk, hbk⟩ := hk.get
          rw [hbk] at hc0
          subst hc0
          have hnk : Nd wr bk (item k (S.ent k)) (f S.m k 0) (f S.m k 1) (S.par S.m k) := Mem.leaf (S := S.w f) HU.out.mem hbk
          have HLK := Lib.hid hnk.liv
          have HII := Lib.hid (isInternal_leaf wr bk k _ _ _ _ hnk)
          have yc' : wr.cell? ⟨b, 1, none⟩ = some (pb bk) := yc
          have HNI : Hid (NotIn S (some bk)) := Lib.hid (.inr ⟨k, hk, hbk.symm⟩)
          clear yc hnk hbk hk
          by_cases hks : bk = bs
          · subst hks
            have HUN := Lib.hid (HU.out.skip HNE.out (by rw [HCC.out]; simp))
            go_wp2_with fail
            refine HII.out.mono ?_
            rintro en w5 ⟨rfl, rfl⟩
            go_wp2_with fail
            rw [neq_pp HLK.out HLS.out, beq_self_eq_true]
            go_wp2_with fail
            go_roundg e
            case measure => omega
            case rel => exact ⟨e, _, Nat.le_refl _, by omega, HNV.out.symm, HUN⟩
          · have hks' : (!(bk == bs)) = true := by simpa using hks
            have HUN := Lib.hid (HU.out.set HI.out (by omega) (by omega) HB.out HNE.out (by rw [HCC.out]; exact HNI.out))
            go_wp2_with fail
            refine HII.out.mono ?_
            rintro en w5 ⟨rfl, rfl⟩
            go_wp2_with fail
            rw [neq_pp HLK.out HLS.out, hks']
            go_wp2_with fail
            go_roundg e
            case measure => omega
            case rel => exact ⟨e, _, Nat.le_refl _, by omega, HNV.out.symm, HUN⟩
        · obtain ⟨bi, hbi⟩ : ∃ b, S.lk d p = some b := by
            cases hb : S.lk d p with
            | none => rw [hb] at hc0; exact absurd hc0 hne
            | some b => exact ⟨b, rfl⟩
          rw [hbi] at hc0
          subst hc0
          have hni : Nd wr bi .nilIface (f d p 0) (f d p 1) (S.par d p) := Mem.inner (S := S.w f) HU.out.mem (by show d < S.m; exact hd) hbi
          have HII := Lib.hid (isInternal_in wr bi _ _ _ hni)
          have yc' : wr.cell? ⟨b, 1, none⟩ = some (pb bi) := yc
          have HUN := Lib.hid (HU.out.skip HNE.out (by rw [HCC.out]; simp))
          clear yc hni hbi hne
          go_wp2_with fail
          refine HII.out.mono ?_
          rintro en w5 ⟨rfl, rfl⟩
          go_wp2_with fail
          go_roundg e
          case measure => omega
          case rel => exact ⟨e, _, Nat.le_refl _, by omega, HNV.out.symm, HUN⟩
      | some r =>
        have hlr : Liv wr r := by
          rcases hRT with h | ⟨d, p, hd, hr⟩
          · cases h
          · exact (Mem.inner (S := S.w f) HU.out.mem (by show d < S.m; exact hd) hr.symm).liv
        have HLR := Lib.hid hlr
        clear hRT hlr
        rw [show op (some r) = pb r from rfl]
        by_cases hbr : b = r
        · subst hbr
          go_wp2_with fail
          rw [neq_pp HLB.out HLR.out, beq_self_eq_true]
          go_wp2_with fail
          go_end0
          refine ⟨rfl, f, HU.out.mem, HU.out.only, HU.out.ch, fun d hd hne hn => ?_⟩
          rcases Nat.lt_or_ge e d with hlt | hge
          · exact HU.out.done d hlt hd hn
          · exact absurd HB.out (hne e hge (by omega))
        · have HNE : Hid (S.lk e (pre S.m e ks) ≠ some r) := Lib.hid (fun h => hbr (by rw [HB.out] at h; cases h; rfl))
          have hbr' : (!(b == r)) = true := by simpa using hbr
          go_wp2_with fail
          rw [neq_pp HLB.out HLR.out, hbr']
          go_upto_region 2 with fail
          rcases HOKC.out with (hc0 | ⟨k, hk, hc0⟩) | ⟨d, p, hd, hc0, hne⟩
          · subst hc0
            have HII := Lib.hid (isInternal_nil wr)
            have yc' : wr.cell? ⟨b, 1, none⟩ = some (.pointer none) := yc
            have HUN := Lib.hid (HU.out.set HI.out (by omega) (by omega) HB.out HNE.out (by rw [HCC.out]; exact .inl rfl))
            clear yc
            go_wp2_with fail
            refine HII.out.mono ?_
            rintro en w5 ⟨rfl, rfl⟩
            go_wp2_with fail
            rw [neq_np]
            go_wp2_with fail
            go_roundg e
            case measure => omega
            case rel => exact ⟨e, _, Nat.le_refl _, by omega, HNV.out.symm, HUN⟩
          · obtain ⟨bk, hbk⟩ := hk.get
            rw [hbk] at hc0
            subst hc0
            have hnk : Nd wr bk (item k (S.ent k)) (f S.m k 0) (f S.m k 1) (S.par S.m k) := Mem.leaf (S := S.w f) HU.out.mem hbk
            have HLK := Lib.hid hnk.liv
            have HII := Lib.hid (isInternal_leaf wr bk k _ _ _ _ hnk)
            have yc' : wr.cell? ⟨b, 1, none⟩ = some (pb bk) := yc
            have HNI : Hid (NotIn S (some bk)) := Lib.hid (.inr ⟨k, hk, hbk.symm⟩)
            clear yc hnk hbk hk
            by_cases hks : bk = bs
            · subst hks
              have HUN := Lib.hid (HU.out.skip HNE.out (by rw [HCC.out]; simp))
              go_wp2_with fail
              refine HII.out.mono ?_
              rintro en w5 ⟨rfl, rfl⟩
              go_wp2_with fail
              rw [neq_pp HLK.out HLS.out, beq_self_eq_true]
              go_wp2_with fail
              go_roundg e
              case measure => omega
              case rel => exact ⟨e, _, Nat.le_refl _, by omega, HNV.out.symm, HUN⟩
            · have hks' : (!(bk == bs)) = true := by simpa using hks
              have HUN := Lib.hid (HU.out.set HI.out (by omega) (by omega) HB.out HNE.out (by rw [HCC.out]; exact HNI.out))
              go_wp2_with fail
              refine HII.out.mono ?_
              rintro en w5 ⟨rfl, rfl⟩
              go_wp2_with fail
              rw [neq_pp HLK.out HLS.out, hks']
              go_wp2_with fail
              go_roundg e
              case measure => omega
              case rel => exact ⟨e, _, Nat.le_refl _, by omega, HNV.out.symm, HUN⟩
          · obtain ⟨bi, hbi⟩ : ∃ b, S.lk d p = some b := by
              cases hb : S.lk d p with
              | none => rw [hb] at hc0; exact absurd hc0 hne
              | some b => exact ⟨b, rfl⟩
            rw [hbi] at hc0
            subst hc0
            have hni : Nd wr bi .nilIface (f d p 0) (f d p 1) (S.par d p) := Mem.inner (S := S.w f) HU.out.mem (by show d < S.m; exact hd) hbi
            have HII := Lib.hid (isInternal_in wr bi _ _ _ hni)
            have yc' : wr.cell? ⟨b, 1, none⟩ = some (pb bi) := yc
            have HUN := Lib.hid (HU.out.skip HNE.out (by rw [HCC.out]; simp))
            clear yc hni hbi hne
            go_wp2_with fail
            refine HII.out.mono ?_
            rintro en w5 ⟨rfl, rfl⟩
            go_wp2_with fail
            go_roundg e
            case measure => omega
            case rel => exact ⟨e, _, Nat.le_refl _, by omega, HNV.out.symm, HUN⟩
set_option maxRecDepth 100000 in
set_option maxHeartbeats 3200000 in
theorem walkUpP (w : World) (S : Sh) (tb bx ks bs : Nat) (rt : Option Nat) (hM : Mem w S) (hi : Inj S) (hm : 1 ≤ S.m) (hup : ∀ d, d ≤ S.m → S.lk d (pre S.m d ks) ≠ none) (hbs : S.lk S.m ks = some bs) (hc : ∀ d, d < S.m → ChOk S (S.ch d (pre S.m d ks) 1)) (hrt : rt = none ∨ ∃ d p, d < S.m ∧ rt = S.lk d p) :
    Calls Tryd.prog 67 #[op (some tb), op rt, op (some bx), op (some bs)] w (UpP S 1 ks rt bx w) := by
  have HI0 : Hid (UpI S 1 ks rt bx w w S.m S.ch) := Lib.hid ⟨hM, Only.refl _ _, fun d p t => .inl rfl, fun d p hd => rfl, fun d hd hm hn => by omega, fun d hd hm => by omega⟩
  have hn := hM.leaf hbs
  have y3 := hn.p
  have lbs := hn.lt
  have HI := Lib.hid hi
  have HUP := Lib.hid hup
  have HBS := Lib.hid hbs
  have HC := Lib.hid hc
  have HRT := Lib.hid hrt
  have hpar : S.par S.m ks = if S.m = 0 then none else S.lk (S.m - 1) (pre S.m (S.m - 1) ks) := by
    obtain ⟨e, he⟩ : ∃ e, S.m = e + 1 := ⟨S.m - 1, by omega⟩
    have h1 := pre_half (m := S.m) (d := e) (k := ks) (by omega)
    rw [← he, pre_full] at h1
    rw [if_neg (by omega), he, Nat.add_sub_cancel, ← he, ← h1]
    show S.par S.m ks = S.lk e (ks / 2)
    rw [he]; rfl
  obtain ⟨nv, hnv⟩ : ∃ nv, op (if S.m = 0 then none else S.lk (S.m - 1) (pre S.m (S.m - 1) ks)) = nv := ⟨_, rfl⟩
  rw [hpar, hnv] at y3
  have HNV := Lib.hid hnv
  clear hM hi hup hbs hc hrt hn hpar hnv
  show Calls Tryd.prog 67 #[pb tb, op rt, pb bx, pb bs] w _
  go_enter Tryd.func67, Tryd.ntmps67
  go_wp2_with fail
  go_loopg [8] S.m (fun kx nv wr => ∃ (j : Nat) (f : Cf), j ≤ kx ∧ j ≤ S.m ∧ nv = op (if j = 0 then none else S.lk (j - 1) (pre S.m (j - 1) ks)) ∧ Hid (UpI S 1 ks rt bx w wr j f))
  case atStart => exact ⟨S.m, S.ch, Nat.le_refl _, Nat.le_refl _, HNV.out.symm, HI0⟩
  case round =>
    clear HI0
    obtain ⟨j, f, hj, hjm, rfl, HU⟩ := hrel
    rcases Nat.eq_zero_or_pos j with h0 | h0
    · subst h0
      rw [if_pos rfl, show op (none : Option Nat) = Value.pointer none from rfl]
      go_wp2_with fail
      go_end0
      exact ⟨rfl, f, HU.out.mem, HU.out.only, HU.out.ch, fun d hd hne hn => HU.out.done d (Nat.zero_le _) hd hn⟩
    · obtain ⟨e, rfl⟩ : ∃ e, j = e + 1 := ⟨j - 1, by omega⟩
      obtain ⟨b, hb⟩ : ∃ b, S.lk e (pre S.m e ks) = some b := by
        cases hb : S.lk e (pre S.m e ks) with
        | none => exact absurd hb (HUP.out e (by omega))
        | some b => exact ⟨b, rfl⟩
      have HB := Lib.hid hb
      rw [if_neg (by omega), Nat.add_sub_cancel, hb, show op (some b) = pb b from rfl]
      have hnb : Nd wr b .nilIface (f e (pre S.m e ks) 0) (f e (pre S.m e ks) 1) (S.par e (pre S.m e ks)) := Mem.inner (S := S.w f) HU.out.mem (by show e < S.m; omega) hb
      have hns : Nd wr bs (item ks (S.ent ks)) (f S.m ks 0) (f S.m ks 1) (S.par S.m ks) := Mem.leaf (S := S.w f) HU.out.mem HBS.out
      have HLB := Lib.hid hnb.liv
      have HLS := Lib.hid hns.liv
      have HNB := Lib.hid hnb
      have y3 := hnb.p
      rw [par_up (by omega)] at y3
      obtain ⟨nv, hnv⟩ : ∃ nv, op (if e = 0 then none else S.lk (e - 1) (pre S.m (e - 1) ks)) = nv := ⟨_, rfl⟩
      rw [hnv] at y3
      have HNV := Lib.hid hnv
      have lb := hnb.lt
      have fb := hnb.fr
      have hlow := HU.out.low e (pre S.m e ks) (Nat.lt_succ_self _)
      have yc := hnb.c1
      rw [hlow] at yc
      obtain ⟨c, hcc⟩ : ∃ c, S.ch e (pre S.m e ks) 1 = c := ⟨_, rfl⟩
      have HCC := Lib.hid hcc
      have hok := HC.out e (by omega)
      rw [hcc] at hok yc
      have HOKC := Lib.hid hok
      clear hnb hns hnv hlow hcc hok hb
      have hRT := HRT.out
      cases rt with
      | none =>
        rw [show op (none : Option Nat) = Value.pointer none from rfl]
        have HNE : Hid (S.lk e (pre S.m e ks) ≠ none) := Lib.hid (HUP.out e (by omega))
        clear hRT
        go_upto_region 2 with fail
        rcases HOKC.out with (hc0 | ⟨k, hk, hc0⟩) | ⟨d, p, hd, hc0, hne⟩
        · subst hc0
          have HII := Lib.hid (isInternal_nil wr)
          have yc' : wr.cell? ⟨b, 2, none⟩ = some (.pointer none) := yc
          have HUN := Lib.hid (HU.out.set HI.out (by omega) (by omega) HB.out HNE.out (by rw [HCC.out]; exact .inl rfl))
          clear yc
          go_wp2_with fail
          refine HII.out.mono ?_
          rintro en w5 ⟨rfl, rfl⟩
          go_wp2_with fail
          rw [neq_np]
          go_wp2_with fail
          go_roundg e
          case measure => omega
          case rel => exact ⟨e, _, Nat.le_refl _, by omega, HNV.out.symm, HUN⟩
        · obtain ⟨bk, hbk⟩ := hk.get
          rw [hbk] at hc0
          subst hc0
          have hnk : Nd wr bk (item k (S.ent k)) (f S.m k 0) (f S.m k 1) (S.par S.m k) := Mem.leaf (S := S.w f) HU.out.mem hbk
          have HLK := Lib.hid hnk.liv
          have HII := Lib.hid (isInternal_leaf wr bk k _ _ _ _ hnk)
          have yc' : wr.cell? ⟨b, 2, none⟩ = some (pb bk) := yc
          have HNI : Hid (NotIn S (some bk)) := Lib.hid (.inr ⟨k, hk, hbk.symm⟩)
          clear yc hnk hbk hk
          by_cases hks : bk = bs
          · subst hks
            have HUN := Lib.hid (HU.out.skip HNE.out (by rw [HCC.out]; simp))
            go_wp2_with fail
            refine HII.out.mono ?_
            rintro en w5 ⟨rfl, rfl⟩
            go_wp2_with fail
            rw [neq_pp HLK.out HLS.out, beq_self_eq_true]
            go_wp2_with fail
            go_roundg e
            case measure => omega
            case rel => exact ⟨e, _, Nat.le_refl _, by omega, HNV.out.symm, HUN⟩
          · have hks' : (!(bk == bs)) = true := by simpa using hks
            have HUN := Lib.hid (HU.out.set HI.out (by omega) (by omega) HB.out HNE.out (by rw [HCC.out]; exact HNI.out))
            go_wp2_with fail
            refine HII.out.mono ?_
            rintro en w5 ⟨rfl, rfl⟩
            go_wp2_with fail
            rw [neq_pp HLK.out HLS.out, hks']
            go_wp2_with fail
            go_roundg e
            case measure => omega
            case rel => exact ⟨e, _, Nat.le_refl _, by omega, HNV.out.symm, HUN⟩
        · obtain ⟨bi, hbi⟩ : ∃ b, S.lk d p = some b := by
            cases hb : S.lk d p with
            | none => rw [hb] at hc0; exact absurd hc0 hne
            | some b => exact ⟨b, rfl⟩
          rw [hbi] at hc0
          subst hc0
          have hni : Nd wr bi .nilIface (f d p 0) (f d p 1) (S.par d p) := Mem.inner (S := S.w f) HU.out.mem (by show d < S.m; exact hd) hbi
          have HII := Lib.hid (isInternal_in wr bi _ _ _ hni)
          have yc' : wr.cell? ⟨b, 2, none⟩ = some (pb bi) := yc
          have HUN := Lib.hid (HU.out.skip HNE.out (by rw [HCC.out]; simp))
          clear yc hni hbi hne
          go_wp2_with fail
          refine HII.out.mono ?_
          rintro en w5 ⟨rfl, rfl⟩
          go_wp2_with fail
          go_roundg e
          case measure => omega
          case rel => exact ⟨e, _, Nat.le_refl _, by omega, HNV.out.symm, HUN⟩
      | some r =>
        have hlr : Liv wr r := by
          rcases hRT with h | ⟨d, p, hd, hr⟩
          · cases h
          · exact (Mem.inner (S := S.w f) HU.out.mem (by show d < S.m; exact hd) hr.symm).liv
        have HLR := Lib.hid hlr
        clear hRT hlr
        rw [show op (some r) = pb r from rfl]
        by_cases hbr : b = r
        · subst hbr
          go_wp2_with fail
          rw [neq_pp HLB.out HLR.out, beq_self_eq_true]
          go_wp2_with fail
          go_end0
          refine ⟨rfl, f, HU.out.mem, HU.out.only, HU.out.ch, fun d hd hne hn => ?_⟩
          rcases Nat.lt_or_ge e d with hlt | hge
          · exact HU.out.done d hlt hd hn
          · exact absurd HB.out (hne e hge (by omega))
        · have HNE : Hid (S.lk e (pre S.m e ks) ≠ some r) := Lib.hid (fun h => hbr (by rw [HB.out] at h; cases h; rfl))
          have hbr' : (!(b == r)) = true := by simpa using hbr
          go_wp2_with fail
          rw [neq_pp HLB.out HLR.out, hbr']
          go_upto_region 2 with fail
          rcases HOKC.out with (hc0 | ⟨k, hk, hc0⟩) | ⟨d, p, hd, hc0, hne⟩
          · subst hc0
            have HII := Lib.hid (isInternal_nil wr)
            have yc' : wr.cell? ⟨b, 2, none⟩ = some (.pointer none) := yc
            have HUN := Lib.hid (HU.out.set HI.out (by omega) (by omega) HB.out HNE.out (by rw [HCC.out]; exact .inl rfl))
            clear yc
            go_wp2_with fail
            refine HII.out.mono ?_
            rintro en w5 ⟨rfl, rfl⟩
            go_wp2_with fail
            rw [neq_np]
            go_wp2_with fail
            go_roundg e
            case measure => omega
            case rel => exact ⟨e, _, Nat.le_refl _, by omega, HNV.out.symm, HUN⟩
          · obtain ⟨bk, hbk⟩ := hk.get
            rw [hbk] at hc0
            subst hc0
            have hnk : Nd wr bk (item k (S.ent k)) (f S.m k 0) (f S.m k 1) (S.par S.m k) := Mem.leaf (S := S.w f) HU.out.mem hbk
            have HLK := Lib.hid hnk.liv
            have HII := Lib.hid (isInternal_leaf wr bk k _ _ _ _ hnk)
            have yc' : wr.cell? ⟨b, 2, none⟩ = some (pb bk) := yc
            have HNI : Hid (NotIn S (some bk)) := Lib.hid (.inr ⟨k, hk, hbk.symm⟩)
            clear yc hnk hbk hk
            by_cases hks : bk = bs
            · subst hks
              have HUN := Lib.hid (HU.out.skip HNE.out (by rw [HCC.out]; simp))
              go_wp2_with fail
              refine HII.out.mono ?_
              rintro en w5 ⟨rfl, rfl⟩
              go_wp2_with fail
              rw [neq_pp HLK.out HLS.out, beq_self_eq_true]
              go_wp2_with fail
              go_roundg e
              case measure => omega
              case rel => exact ⟨e, _, Nat.le_refl _, by omega, HNV.out.symm, HUN⟩
            · have hks' : (!(bk == bs)) = true := by simpa using hks
              have HUN := Lib.hid (HU.out.set HI.out (by omega) (by omega) HB.out HNE.out (by rw [HCC.out]; exact HNI.out))
              go_wp2_with fail
              refine HII.out.mono ?_
              rintro en w5 ⟨rfl, rfl⟩
              go_wp2_with fail
              rw [neq_pp HLK.out HLS.out, hks']
              go_wp2_with fail
              go_roundg e
              case measure => omega
              case rel => exact ⟨e, _, Nat.le_refl _, by omega, HNV.out.symm, HUN⟩
          · obtain ⟨bi, hbi⟩ : ∃ b, S.lk d p = some b := by
              cases hb : S.lk d p with
              | none => rw [hb] at hc0; exact absurd hc0 hne
              | some b => exact ⟨b, rfl⟩
            rw [hbi] at hc0
            subst hc0
            have hni : Nd wr bi .nilIface (f d p 0) (f d p 1) (S.par d p) := Mem.inner (S := S.w f) HU.out.mem (by show d < S.m; exact hd) hbi
            have HII := Lib.hid (isInternal_in wr bi _ _ _ hni)
            have yc' : wr.cell? ⟨b, 2, none⟩ = some (pb bi) := yc
            have HUN := Lib.hid (HU.out.skip HNE.out (by rw [HCC.out]; simp))
            clear yc hni hbi hne
            go_wp2_with fail
            refine HII.out.mono ?_
            rintro en w5 ⟨rfl, rfl⟩
            go_wp2_with fail
            go_roundg e
            case measure => omega
            case rel => exact ⟨e, _, Nat.le_refl _, by omega, HNV.out.symm, HUN⟩
end Go.Proofs.YtcjifjfcjimefaaDoor.xf

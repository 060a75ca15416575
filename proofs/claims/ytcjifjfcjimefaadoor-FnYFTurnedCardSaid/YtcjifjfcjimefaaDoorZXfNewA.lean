/-
  insert: an entry whose key is new. Printed by gen_new.py.
-/
import Derived.Test.YtcjifjfcjimefaaDoorZXfNewE
namespace Go.Proofs.YtcjifjfcjimefaaDoor.xf
open Go.RowKit Go.Proofs.YtcjifjfcjimefaaDoor.base Go.Proofs.YtcjifjfcjimefaaDoor.heap Go.Proofs.YtcjifjfcjimefaaDoor.rows Go.Proofs.YtcjifjfcjimefaaDoor.mapn
set_option linter.unusedVariables false
variable [Inhabited Kd]

set_option maxRecDepth 1000000 in
set_option maxHeartbeats 6400000 in
theorem insNewA (w : World) (S : Sh) (tb lb root num : Nat) (md : Nat → Nat) (mn mx : Option Nat) (x : Nat) (v : Int) (h : Trie w S tb lb root num md mn mx) (hT : Tabs w) (hown : ∀ k, k < 2 → ¬ Own S tb md k) (hnum : num < 1000000) (hx : ¬ S.K x) (hx2 : x < 2 ^ S.m) (hKO : KeysOk S tb md w x v) (hc : (∃ k, S.K k) ∧ ∀ k, S.K k → x < k) :
    Calls Tryd.prog 49 #[op (some tb), item x v] w (NewP S x v tb lb root num md w) := by
  have HH := Lib.hid h
  have HT := Lib.hid hT
  have HOWN := Lib.hid hown
  have HXK := Lib.hid hx
  obtain ⟨hm2, hm64⟩ := h.ok.m2
  have m1 := methodK x v
  have q1 := nilK x v
  have HKO := Lib.hid hKO
  have cfK := runK
  have HKEY : Hid (∀ k u wx, (k = x ∧ u = v) ∨ (S.K k ∧ u = S.ent k) → Same w wx → Calls Tryd.prog keyK #[payK k u] wx fun en w' => en = .returned (.int .u64 (k : Int)) ∧ Same wx w') := Lib.hid (fun k u wx hk hx => key_of k u wx (hKO wx (hx.mono (fun _ _ f => f.elim)) k u hk))
  have HX := Lib.hid hx2
  have HLX : Hid (S.lk S.m x = none) := Lib.hid (by
    cases hb : S.lk S.m x with
    | none => rfl
    | some b => exact absurd (show S.K x from fun e => by rw [hb] at e; cases e) hx)
  have HE := Lib.hid h.ends
  have HCS := Lib.hid hc
  clear hc
  clear h hT hown hx hx2 hKO
  show Calls Tryd.prog 49 #[pb tb, item x v] w _
  go_enter Tryd.func49, Tryd.ntmps49
  go_wp2_with fail
  refine (HKEY.out x v _ (.inl ⟨rfl, rfl⟩) (Only.refl _ _)).mono ?_
  rintro e w1 ⟨rfl, hs1⟩
  have HH1 := Lib.hid (HH.out.still hs1)
  have HS1 := Lib.hid hs1
  clear hs1
  have t0 : w1.cell? ⟨tb, 0, none⟩ = some (.slice (some ⟨lb, 0, none⟩) S.m S.m) := block_cell HH1.out.obj.obj rfl
  have t3 : w1.cell? ⟨tb, 3, none⟩ = some (.int .u8 (S.m : Int)) := block_cell HH1.out.obj.obj rfl
  have lt := lt_of_heap HH1.out.obj.obj
  obtain ⟨mi, hmi⟩ : ∃ mi, S.m - 1 = mi := ⟨_, rfl⟩
  have hmi1 : mi < S.m := by omega
  have hu : ((S.m : Int) - 1) = (mi : Int) := by omega
  have hlook : ∀ n, (Instr.lookup 109 (.map (some (md mi))) (.int .u64 (x : Int)) false).run Tryd.prog (w1.drewN n) = .ok (.pointer none) (w1.drewN n) := fun n => by
    have := (HH1.out.lay.still ((Only.refl _ w1).drewN n)).look hmi1 HX.out false
    rw [show mi + 1 = S.m by omega, cut_full, pre_full, HLX.out] at this
    exact this
  have c0 := HH1.out.lay.row mi hmi1
  have hlb := HH1.out.lay.lb
  have hmm : (mi : Int) < (S.m : Int) := by omega
  go_upto_region 1 with fail
  go_quiet (fail)
  obtain ⟨w2, hw2⟩ : ∃ w2, w1.drewN nq = w2 := ⟨_, rfl⟩
  have HS2 : Hid (Same w w2) := Lib.hid (by rw [← hw2]; exact HS1.out.drewN _)
  rw [hw2]
  clear hw2 t0 t3 lt hlook c0 hlb hmm hu hmi hmi1 HH1 HS1 m1 q1
  have HH2 := Lib.hid (HH.out.still HS2.out)
  rcases HE.out with ⟨h0, hmn, hmx⟩ | ⟨k1, k2, h1, h2, h12, hmn, hmx⟩
  · obtain ⟨k, hk⟩ := HCS.out.1
    exact absurd hk (h0 k)
  · obtain ⟨b1, hb1⟩ := h1.get
    obtain ⟨b2, hb2⟩ := h2.get
    rw [hb1] at hmn
    rw [hb2] at hmx
    subst hmn
    subst hmx
    have HK1 := Lib.hid (And.intro h1 hb1)
    have HK2 := Lib.hid (And.intro h2 hb2)
    have H12 := Lib.hid h12
    have HF : Hid (∀ wx, Same w2 wx → wx.cell? ⟨tb, 5, none⟩ = some (pb b1) ∧ wx.cell? ⟨tb, 6, none⟩ = some (pb b2) ∧ tb < wx.heap.size ∧ wx.cell? ⟨b1, 0, none⟩ = some (item k1 (S.ent k1)) ∧ wx.cell? ⟨b2, 0, none⟩ = some (item k2 (S.ent k2)) ∧ b1 < wx.heap.size ∧ b2 < wx.heap.size) := Lib.hid (fun wx hx => by
      have ho := hx.obj HH2.out.obj.obj id
      have n1 := (HH2.out.mem.leaf hb1).still hx
      have n2 := (HH2.out.mem.leaf hb2).still hx
      exact ⟨block_cell ho rfl, block_cell ho rfl, lt_of_heap ho, n1.e, n2.e, n1.lt, n2.lt⟩)
    obtain ⟨t5, t6, lt, e1, e2, l1, l2⟩ := HF.out w2 (Only.refl _ _)
    have m1 := methodK k1 (S.ent k1)
    have m2 := methodK k2 (S.ent k2)
    have q1 := nilK k1 (S.ent k1)
    have q2 := nilK k2 (S.ent k2)
    have hx1 : x ≠ k1 := fun e => HXK.out (by rw [e]; exact h1)
    have hx2 : x ≠ k2 := fun e => HXK.out (by rw [e]; exact h2)
    clear h1 h2 h12 hb1 hb2
    go_wp2_with fail
    refine (HKEY.out k1 _ _ (.inr ⟨HK1.out.1, rfl⟩) HS2.out).mono ?_
    rintro e w3 ⟨rfl, hs3⟩
    have HS23 := Lib.hid hs3
    have HS3 := Lib.hid (HS2.out.trans hs3)
    clear hs3 t5 t6 lt e1 e2 l1 l2
    obtain ⟨t5, t6, lt, e1, e2, l1, l2⟩ := HF.out w3 HS23.out
    by_cases g1 : (x : Int) < (k1 : Int)
    · -- less than all
      have HNB : Hid (Nb0 S x none (some b1)) := Lib.hid (.inr (.inl ⟨k1, HK1.out.1, fun k hk => (H12.out k hk).1, by omega, rfl, HK1.out.2.symm⟩))
      have HHW := Lib.hid (HH.out.still HS3.out)
      have z0 : w3.cell? ⟨tb, 0, none⟩ = some (.slice (some ⟨lb, 0, none⟩) S.m S.m) := block_cell HHW.out.obj.obj rfl
      have zl := lt_of_heap HHW.out.obj.obj
      have HSE := Lib.hid (search w3 S.m lb md S.lk x (HT.out.still HS3.out) HHW.out.lay HX.out HLX.out HHW.out.ok.tree)
      go_wp2_with fail
      refine HSE.out.mono ?_
      rintro e w9 ⟨D, r, rfl, hs9, hD, hex, hno, hr⟩
      have HS9 := Lib.hid (HS3.out.trans hs9)
      have HH9 := Lib.hid (HH.out.still HS9.out)
      have HDP := Lib.hid (deep_of hD HX.out hex hno)
      have HR := Lib.hid hr
      clear hs9 hex hno hr z0 zl HSE HHW
      have z1 : w9.cell? ⟨tb, 1, none⟩ = some (pb root) := block_cell HH9.out.obj.obj rfl
      have zl := lt_of_heap HH9.out.obj.obj
      have HPP : Hid (InsP S D x v tb lb root num md w9 (NewP S x v tb lb root num md w)) := Lib.hid ⟨fun w' f nb mn' mx' g1 g2 g3 => ⟨rfl, D, f, nb, mn', mx', HDP.out, g1, Only.trans (S := Own S tb md) (HS9.out.mono (fun _ _ f => f.elim)) g2 (fun _ _ h => h), fun d p b h1 h2 => (g3 d p b h1 h2).imp id (fun h => Nat.le_trans HS9.out.size h)⟩, fun wx hx => HKO.out wx (Only.trans (S := Own S tb md) (HS9.out.mono (fun _ _ f => f.elim)) hx (fun _ _ h => h))⟩
      by_cases hD0 : D = 0
      · subst hD0
        have hr := HR.out
        rw [if_pos rfl] at hr
        subst hr
        have hn0 : S.lk 0 (pre S.m 0 x) = some root := by rw [pre_zero HX.out]; exact HH.out.root
        have HN0 := Lib.hid hn0
        clear hn0
        rw [show op (none : Option Nat) = Value.pointer none from rfl]
        go_upto_region 17 with fail
        go_cut [10] (fun u wx => u = .int .u64 0 ∧ Hid (wx = w9))
        case first =>
          go_wp2_with fail
          go_meet
          exact ⟨rfl, Lib.hid rfl⟩
        case rest =>
          obtain ⟨rfl, hwc⟩ := hcut
          rw [hwc.out]
          refine (‹∀ (a : Act) (w_1 : World), Code.wp _ _ _ a w_1 → _› _ _ ?_)
          exact br18 w9 S 0 x root v tb lb root num md _ _ none (some b1) none _ _ _ (NewP S x v tb lb root num md w) rfl rfl rfl rfl HNB.out HPP.out HH9.out (HT.out.still HS9.out) HDP.out HN0.out HOWN.out hnum _ _ _ _ _ _ _ _ _ _ _ _ _ _ _ _ _ _ _ _ _ _ _ _ _ _ _ _ _ _ _ _ _ _ _ _ _ _ _ _ _ _ _ _ _ _ _ _ _ _ _ _ _ _ _ _ _ _ _ _ _ _ _ _ _ _ _ _ _ _ _ _ _ _ _ _ _ _ _ _ _ _ _ _ _ _ _ _ _ _ _ _ _ _ _ _ _ _ _ _ _ _ _ _ _ _ _ _ _ _ _ _ _ _ _ _ _ _ _ _ _ _ _ _ _ _ _ _ _ _ _ _ _ _ _ _ _ _ _ _ _ _ _ _ _ _ _ _ _ _ _ _ _ _ _ _ _ _ _ _ _ _ _ _ _ _ _ _ _ _ _ _ _ _ _ _ _ _ _ _ _ _ _ _ _ _ _ _ _ _ _ _ _ _ _ _ _ _ _ _ _ _ _ _ _ _ _ _ _ _ _ _ _ _ _ _ _ _ _ _ _ _ _ _ _ _ _ _ _ _ _ _ _ _ _ _ _ _ _ _ _ _ _ _ _ _ _ _ _ _ _ _ _ _ _ _ _ _ _ _ _ _ _ _ _ _ _ _ _ _ _ _ _ _ _ _ _ _ _ _ _ _ _ _ _ _ _
      · obtain ⟨nD, hnD⟩ : ∃ b, S.lk D (pre S.m D x) = some b := by
          cases hb : S.lk D (pre S.m D x) with
          | none => exact absurd hb (HDP.out.at HH.out.ok)
          | some b => exact ⟨b, rfl⟩
        have hr := HR.out
        rw [if_neg hD0, hnD] at hr
        subst hr
        have HN0 := Lib.hid hnD
        clear hnD
        have HRT : Hid (some nD = if D = 0 then none else S.lk D (pre S.m D x)) := Lib.hid (by rw [if_neg hD0, HN0.out])
        rw [show op (some nD) = pb nD from rfl]
        go_upto_region 17 with fail
        go_cut [10] (fun u wx => u = .int .u64 0 ∧ Hid (wx = w9))
        case first =>
          go_wp2_with fail
          go_meet
          exact ⟨rfl, Lib.hid rfl⟩
        case rest =>
          obtain ⟨rfl, hwc⟩ := hcut
          rw [hwc.out]
          refine (‹∀ (a : Act) (w_1 : World), Code.wp _ _ _ a w_1 → _› _ _ ?_)
          exact br18 w9 S D x nD v tb lb root num md _ _ none (some b1) (some nD) _ _ _ (NewP S x v tb lb root num md w) rfl rfl rfl HRT.out HNB.out HPP.out HH9.out (HT.out.still HS9.out) HDP.out HN0.out HOWN.out hnum _ _ _ _ _ _ _ _ _ _ _ _ _ _ _ _ _ _ _ _ _ _ _ _ _ _ _ _ _ _ _ _ _ _ _ _ _ _ _ _ _ _ _ _ _ _ _ _ _ _ _ _ _ _ _ _ _ _ _ _ _ _ _ _ _ _ _ _ _ _ _ _ _ _ _ _ _ _ _ _ _ _ _ _ _ _ _ _ _ _ _ _ _ _ _ _ _ _ _ _ _ _ _ _ _ _ _ _ _ _ _ _ _ _ _ _ _ _ _ _ _ _ _ _ _ _ _ _ _ _ _ _ _ _ _ _ _ _ _ _ _ _ _ _ _ _ _ _ _ _ _ _ _ _ _ _ _ _ _ _ _ _ _ _ _ _ _ _ _ _ _ _ _ _ _ _ _ _ _ _ _ _ _ _ _ _ _ _ _ _ _ _ _ _ _ _ _ _ _ _ _ _ _ _ _ _ _ _ _ _ _ _ _ _ _ _ _ _ _ _ _ _ _ _ _ _ _ _ _ _ _ _ _ _ _ _ _ _ _ _ _ _ _ _ _ _ _ _ _ _ _ _ _ _ _ _ _ _ _ _ _ _ _ _ _ _ _ _ _ _ _ _ _ _ _ _ _ _ _ _ _ _ _ _ _ _ _
    · exact absurd (by have := HCS.out.2 k1 HK1.out.1; omega) g1
end Go.Proofs.YtcjifjfcjimefaaDoor.xf

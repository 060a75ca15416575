/-
  insert: an entry whose key is new. Printed by gen_new.py.
-/
import Derived.Test.YtcjifjfcjimefaaDoorZXfBr
namespace Go.Proofs.YtcjifjfcjimefaaDoor.xf
open Go.RowKit Go.Proofs.YtcjifjfcjimefaaDoor.base Go.Proofs.YtcjifjfcjimefaaDoor.heap Go.Proofs.YtcjifjfcjimefaaDoor.rows Go.Proofs.YtcjifjfcjimefaaDoor.mapn
set_option linter.unusedVariables false
variable [Inhabited Kd]

omit [Inhabited Kd] in
/-- the deepest prefix that is there, out of the search -/
theorem deep_of {S : Sh} {D x : Nat} (h1 : D < S.m) (h2 : x < 2 ^ S.m) (h3 : ∀ d, 1 ≤ d → d ≤ D → S.lk d (pre S.m d x) ≠ none) (h4 : S.lk (D + 1) (pre S.m (D + 1) x) = none) : S.Deep D x := ⟨h1, h2, h3, h4⟩
/-- said of insert where the key is new -/
def NewP (S : Sh) (x : Nat) (v : Int) (tb lb root num : Nat) (md : Nat → Nat) (w : World) (e : Ending) (w' : World) : Prop :=
  e = .returned (.tuple #[]) ∧ ∃ D f nb mn' mx', S.Deep D x ∧ Trie w' ((S.grow D x v nb S.m).w f) tb lb root (num + 1) md mn' mx' ∧ Only (Own S tb md) w w' ∧ ∀ d p b, d ≤ S.m → lkg S.m S.lk D x nb S.m d p = some b → Own S tb md b ∨ w.heap.size ≤ b
set_option maxRecDepth 1000000 in
set_option maxHeartbeats 6400000 in
theorem insNewE (w : World) (S : Sh) (tb lb root num : Nat) (md : Nat → Nat) (mn mx : Option Nat) (x : Nat) (v : Int) (h : Trie w S tb lb root num md mn mx) (hT : Tabs w) (hown : ∀ k, k < 2 → ¬ Own S tb md k) (hnum : num < 1000000) (hx : ¬ S.K x) (hx2 : x < 2 ^ S.m) (hKO : KeysOk S tb md w x v) (hc : ∀ k, ¬ S.K k) :
    Calls Tryd.prog 49 #[op (some tb), item x v] w (NewP S x v tb lb root num md w) := by
  have HH := Lib.hid h
  have HT := Lib.hid hT
  have HOWN := Lib.hid hown
  have HXK := Lib.hid hx
  obtain ⟨hm2, hm64⟩ := h.ok.m2
  have m1 := methodK x v
  have q1 := nilK x v
  have HKO := Lib.hid hKO
  have cfK := runK
  have HKEY : Hid (∀ k u wx, (k = x ∧ u = v) ∨ (S.K k ∧ u = S.ent k) → Same w wx → Calls Tryd.prog keyK #[payK k u] wx fun en w' => en = .returned (.int .u64 (k : Int)) ∧ Same wx w') := Lib.hid (fun k u wx hk hx => key_of k u wx (hKO wx (hx.mono (fun _ _ f => f.elim)) k u hk))
  have HX := Lib.hid hx2
  have HLX : Hid (S.lk S.m x = none) := Lib.hid (by
    cases hb : S.lk S.m x with
    | none => rfl
    | some b => exact absurd (show S.K x from fun e => by rw [hb] at e; cases e) hx)
  have HE := Lib.hid h.ends
  have HCS := Lib.hid hc
  clear hc
  clear h hT hown hx hx2 hKO
  show Calls Tryd.prog 49 #[pb tb, item x v] w _
  go_enter Tryd.func49, Tryd.ntmps49
  go_wp2_with fail
  refine (HKEY.out x v _ (.inl ⟨rfl, rfl⟩) (Only.refl _ _)).mono ?_
  rintro e w1 ⟨rfl, hs1⟩
  have HH1 := Lib.hid (HH.out.still hs1)
  have HS1 := Lib.hid hs1
  clear hs1
  have t0 : w1.cell? ⟨tb, 0, none⟩ = some (.slice (some ⟨lb, 0, none⟩) S.m S.m) := block_cell HH1.out.obj.obj rfl
  have t3 : w1.cell? ⟨tb, 3, none⟩ = some (.int .u8 (S.m : Int)) := block_cell HH1.out.obj.obj rfl
  have lt := lt_of_heap HH1.out.obj.obj
  obtain ⟨mi, hmi⟩ : ∃ mi, S.m - 1 = mi := ⟨_, rfl⟩
  have hmi1 : mi < S.m := by omega
  have hu : ((S.m : Int) - 1) = (mi : Int) := by omega
  have hlook : ∀ n, (Instr.lookup 109 (.map (some (md mi))) (.int .u64 (x : Int)) false).run Tryd.prog (w1.drewN n) = .ok (.pointer none) (w1.drewN n) := fun n => by
    have := (HH1.out.lay.still ((Only.refl _ w1).drewN n)).look hmi1 HX.out false
    rw [show mi + 1 = S.m by omega, cut_full, pre_full, HLX.out] at this
    exact this
  have c0 := HH1.out.lay.row mi hmi1
  have hlb := HH1.out.lay.lb
  have hmm : (mi : Int) < (S.m : Int) := by omega
  go_upto_region 1 with fail
  go_quiet (fail)
  obtain ⟨w2, hw2⟩ : ∃ w2, w1.drewN nq = w2 := ⟨_, rfl⟩
  have HS2 : Hid (Same w w2) := Lib.hid (by rw [← hw2]; exact HS1.out.drewN _)
  rw [hw2]
  clear hw2 t0 t3 lt hlook c0 hlb hmm hu hmi hmi1 HH1 HS1 m1 q1
  have HH2 := Lib.hid (HH.out.still HS2.out)
  rcases HE.out with ⟨h0, hmn, hmx⟩ | ⟨k1, k2, h1, h2, h12, hmn, hmx⟩
  · -- the first entry
    subst hmn
    subst hmx
    have HK0 := Lib.hid h0
    have t5 : w2.cell? ⟨tb, 5, none⟩ = some (.pointer none) := block_cell HH2.out.obj.obj rfl
    have t6 : w2.cell? ⟨tb, 6, none⟩ = some (.pointer none) := block_cell HH2.out.obj.obj rfl
    have lt := lt_of_heap HH2.out.obj.obj
    have HSU := Lib.hid (succ_none w2 S tb lb root num x HH2.out.obj h0)
    clear h0
    go_wp2_with fail
    refine HSU.out.mono ?_
    rintro e w3 ⟨r, rfl, hs3, hr⟩
    have hr0 : r = none := by
      rcases hr with ⟨h, _⟩ | ⟨k, h, _⟩
      · exact h
      · exact absurd h (HK0.out k)
    subst hr0
    have HS3 := Lib.hid (HS2.out.trans hs3)
    have HH3 := Lib.hid (HH.out.still HS3.out)
    rw [show op (none : Option Nat) = Value.pointer none from rfl]
    clear hs3 hr t5 t6 lt HSU
    have t6 : w3.cell? ⟨tb, 6, none⟩ = some (.pointer none) := block_cell HH3.out.obj.obj rfl
    have lt := lt_of_heap HH3.out.obj.obj
    have HPE := Lib.hid (pred_none w3 S tb lb root num x HH3.out.obj)
    go_wp2_with fail
    refine HPE.out.mono ?_
    rintro e w4 ⟨rfl, rfl⟩
    have HNB : Hid (Nb0 S x none none) := Lib.hid (.inl ⟨HK0.out, rfl, rfl⟩)
    clear t6 lt HPE HK0
    have HHW := Lib.hid (HH.out.still HS3.out)
    have z0 : w3.cell? ⟨tb, 0, none⟩ = some (.slice (some ⟨lb, 0, none⟩) S.m S.m) := block_cell HHW.out.obj.obj rfl
    have zl := lt_of_heap HHW.out.obj.obj
    have HSE := Lib.hid (search w3 S.m lb md S.lk x (HT.out.still HS3.out) HHW.out.lay HX.out HLX.out HHW.out.ok.tree)
    go_wp2_with fail
    refine HSE.out.mono ?_
    rintro e w9 ⟨D, r, rfl, hs9, hD, hex, hno, hr⟩
    have HS9 := Lib.hid (HS3.out.trans hs9)
    have HH9 := Lib.hid (HH.out.still HS9.out)
    have HDP := Lib.hid (deep_of hD HX.out hex hno)
    have HR := Lib.hid hr
    clear hs9 hex hno hr z0 zl HSE HHW
    have z1 : w9.cell? ⟨tb, 1, none⟩ = some (pb root) := block_cell HH9.out.obj.obj rfl
    have zl := lt_of_heap HH9.out.obj.obj
    have HPP : Hid (InsP S D x v tb lb root num md w9 (NewP S x v tb lb root num md w)) := Lib.hid ⟨fun w' f nb mn' mx' g1 g2 g3 => ⟨rfl, D, f, nb, mn', mx', HDP.out, g1, Only.trans (S := Own S tb md) (HS9.out.mono (fun _ _ f => f.elim)) g2 (fun _ _ h => h), fun d p b h1 h2 => (g3 d p b h1 h2).imp id (fun h => Nat.le_trans HS9.out.size h)⟩, fun wx hx => HKO.out wx (Only.trans (S := Own S tb md) (HS9.out.mono (fun _ _ f => f.elim)) hx (fun _ _ h => h))⟩
    by_cases hD0 : D = 0
    · subst hD0
      have hr := HR.out
      rw [if_pos rfl] at hr
      subst hr
      have hn0 : S.lk 0 (pre S.m 0 x) = some root := by rw [pre_zero HX.out]; exact HH.out.root
      have HN0 := Lib.hid hn0
      clear hn0
      rw [show op (none : Option Nat) = Value.pointer none from rfl]
      go_upto_region 17 with fail
      go_cut [10] (fun u wx => u = .int .u64 0 ∧ Hid (wx = w9))
      case first =>
        go_wp2_with fail
        go_meet
        exact ⟨rfl, Lib.hid rfl⟩
      case rest =>
        obtain ⟨rfl, hwc⟩ := hcut
        rw [hwc.out]
        refine (‹∀ (a : Act) (w_1 : World), Code.wp _ _ _ a w_1 → _› _ _ ?_)
        exact br18 w9 S 0 x root v tb lb root num md _ _ none none none _ _ _ (NewP S x v tb lb root num md w) rfl rfl rfl rfl HNB.out HPP.out HH9.out (HT.out.still HS9.out) HDP.out HN0.out HOWN.out hnum _ _ _ _ _ _ _ _ _ _ _ _ _ _ _ _ _ _ _ _ _ _ _ _ _ _ _ _ _ _ _ _ _ _ _ _ _ _ _ _ _ _ _ _ _ _ _ _ _ _ _ _ _ _ _ _ _ _ _ _ _ _ _ _ _ _ _ _ _ _ _ _ _ _ _ _ _ _ _ _ _ _ _ _ _ _ _ _ _ _ _ _ _ _ _ _ _ _ _ _ _ _ _ _ _ _ _ _ _ _ _ _ _ _ _ _ _ _ _ _ _ _ _ _ _ _ _ _ _ _ _ _ _ _ _ _ _ _ _ _ _ _ _ _ _ _ _ _ _ _ _ _ _ _ _ _ _ _ _ _ _ _ _ _ _ _ _ _ _ _ _ _ _ _ _ _ _ _ _ _ _ _ _ _ _ _ _ _ _ _ _ _ _ _ _ _ _ _ _ _ _ _ _ _ _ _ _ _ _ _ _ _ _ _ _ _ _ _ _ _ _ _ _ _ _ _ _ _ _ _ _ _ _ _ _ _ _ _ _ _ _ _ _ _ _ _ _ _ _ _ _ _ _ _ _ _ _ _ _ _ _ _ _ _ _ _ _ _ _ _ _ _ _ _ _ _ _ _ _ _ _ _ _ _ _ _ _
    · obtain ⟨nD, hnD⟩ : ∃ b, S.lk D (pre S.m D x) = some b := by
        cases hb : S.lk D (pre S.m D x) with
        | none => exact absurd hb (HDP.out.at HH.out.ok)
        | some b => exact ⟨b, rfl⟩
      have hr := HR.out
      rw [if_neg hD0, hnD] at hr
      subst hr
      have HN0 := Lib.hid hnD
      clear hnD
      have HRT : Hid (some nD = if D = 0 then none else S.lk D (pre S.m D x)) := Lib.hid (by rw [if_neg hD0, HN0.out])
      rw [show op (some nD) = pb nD from rfl]
      go_upto_region 17 with fail
      go_cut [10] (fun u wx => u = .int .u64 0 ∧ Hid (wx = w9))
      case first =>
        go_wp2_with fail
        go_meet
        exact ⟨rfl, Lib.hid rfl⟩
      case rest =>
        obtain ⟨rfl, hwc⟩ := hcut
        rw [hwc.out]
        refine (‹∀ (a : Act) (w_1 : World), Code.wp _ _ _ a w_1 → _› _ _ ?_)
        exact br18 w9 S D x nD v tb lb root num md _ _ none none (some nD) _ _ _ (NewP S x v tb lb root num md w) rfl rfl rfl HRT.out HNB.out HPP.out HH9.out (HT.out.still HS9.out) HDP.out HN0.out HOWN.out hnum _ _ _ _ _ _ _ _ _ _ _ _ _ _ _ _ _ _ _ _ _ _ _ _ _ _ _ _ _ _ _ _ _ _ _ _ _ _ _ _ _ _ _ _ _ _ _ _ _ _ _ _ _ _ _ _ _ _ _ _ _ _ _ _ _ _ _ _ _ _ _ _ _ _ _ _ _ _ _ _ _ _ _ _ _ _ _ _ _ _ _ _ _ _ _ _ _ _ _ _ _ _ _ _ _ _ _ _ _ _ _ _ _ _ _ _ _ _ _ _ _ _ _ _ _ _ _ _ _ _ _ _ _ _ _ _ _ _ _ _ _ _ _ _ _ _ _ _ _ _ _ _ _ _ _ _ _ _ _ _ _ _ _ _ _ _ _ _ _ _ _ _ _ _ _ _ _ _ _ _ _ _ _ _ _ _ _ _ _ _ _ _ _ _ _ _ _ _ _ _ _ _ _ _ _ _ _ _ _ _ _ _ _ _ _ _ _ _ _ _ _ _ _ _ _ _ _ _ _ _ _ _ _ _ _ _ _ _ _ _ _ _ _ _ _ _ _ _ _ _ _ _ _ _ _ _ _ _ _ _ _ _ _ _ _ _ _ _ _ _ _ _ _ _ _ _ _ _ _ _ _ _ _ _ _ _ _
  · exact absurd h1 (HCS.out k1)
end Go.Proofs.YtcjifjfcjimefaaDoor.xf

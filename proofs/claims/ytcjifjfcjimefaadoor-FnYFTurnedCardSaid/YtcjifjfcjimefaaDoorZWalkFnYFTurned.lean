/-
  FnYFTurned: the walk.
-/
import Derived.Test.YtcjifjfcjimefaaDoorZYScr
import Derived.Test.YtcjifjfcjimefaaDoorZYRun
import Derived.Test.YtcjifjfcjimefaaDoorZXfTru
import Derived.Test.YtcjifjfcjimefaaDoorMB
namespace Go.Proofs.YtcjifjfcjimefaaDoor.walkFnYFTurned
open Go.ChangeShapes Go.WideShapes Go.ChangeAt Go.RowKit Go.Proofs.YtcjifjfcjimefaaDoor.base Go.Proofs.YtcjifjfcjimefaaDoor.heap Go.Proofs.YtcjifjfcjimefaaDoor.rows
open Go.Proofs.YtcjifjfcjimefaaDoor.xf hiding Own
set_option linter.unusedVariables false

set_option maxRecDepth 100000 in
theorem read_items {W : World} {v : Value} (h : Reads Tryd.prog W 22 v) : ∃ (a : Option Addr) (n cap : Nat) (l : List It), v = .slice a n cap ∧ RS itc 2 W a n cap l ∧ ∀ y ∈ l, y.1 < 2 ^ 64 := by
  obtain ⟨a, n, cap, l, rfl, h, hs⟩ := T.slice (c := itc) (K := 2) (fun y : It => y.1 < 2 ^ 64) itc_len itc_one (by omega) Tryd.underlying22 (by kernel_rfl) (fun cs hl ht => by
    match cs, hl with
    | [v0, v1], _ =>
      have h0 := ht.field Tryd.underlying43 0 _ rfl
      have h1 := ht.field Tryd.underlying43 1 _ rfl
      obtain ⟨k0, rfl, hk⟩ := T.int (v := v0) h0 Tryd.underlying25
      obtain ⟨k1, rfl, _⟩ := T.int (v := v1) h1 Tryd.underlying3
      have hk' := wf_u64 hk
      obtain ⟨K, rfl⟩ := Int.eq_ofNat_of_zero_le hk'.1
      exact ⟨(K, k1), rfl, by have := hk'.2; show K < 2 ^ 64; omega⟩) (reads_t h Tryd.underlying22)
  exact ⟨a, n, cap, l, rfl, h, hs⟩
set_option maxRecDepth 100000 in
set_option maxHeartbeats 6400000 in
theorem main (sz : Nat) (hsz : sz < 256) (a : Option Addr) (n cap : Nat) (l0 : List It) (w : World) (h : RS itc 2 w a n cap l0) (hl : ∀ y ∈ l0, y.1 < 2 ^ 64) (hT : Tabs w) :
    Calls Tryd.prog 3 #[.int .u8 (sz : Int), .slice a n cap] w fun e w' => e = .returned (.bool true) ∧ Below w.heap.size w w' := by
  have hbd := h.bound
  have HR := Lib.hid h
  have HL := Lib.hid hl
  have HT := Lib.hid hT
  have HB := Lib.hid (trBits_of sz w hsz)
  clear h hl hT
  by_cases hbig : (2147483647 : Int) < (n : Int)
  · go_enter Tryd.func3, Tryd.ntmps3
    go_wp2_with fail
    go_ret
    exact ⟨rfl, (Only.refl (fun _ => False) w).below (Nat.le_refl _) (fun _ _ h => h)⟩
  · go_enter Tryd.func3, Tryd.ntmps3
    go_wp2_with fail
    refine HB.out.mono ?_
    rintro e w1 ⟨m, hm, rfl, hs1⟩
    have HM := Lib.hid hm
    have HS1 := Lib.hid hs1
    have HK := Lib.hid (trMask_of m w1 hm)
    clear hm hs1 HB
    go_wp2_with fail
    refine HK.out.mono ?_
    rintro e w2 ⟨rfl, hs2⟩
    have HS2 := Lib.hid (HS1.out.trans hs2)
    clear hs2 HK HS1
    have HIT := Lib.hid (trItems_of w2 a n cap m l0 (HR.out.still HS2.out) HM.out HL.out)
    go_wp2_with fail
    refine HIT.out.mono ?_
    rintro e w3 ⟨a3, n3, c3, rfl, hN⟩
    have HS3 := Lib.hid (HS2.out.trans hN.same)
    obtain ⟨l, hl⟩ : ∃ l, cutI m l0 = l := ⟨_, rfl⟩
    have HLM : Hid (∀ y ∈ l, y.1 < 2 ^ m) := Lib.hid (by
      rw [← hl]
      intro y hy
      unfold cutI at hy
      obtain ⟨z, _, rfl⟩ := List.mem_map.1 hy
      exact Nat.mod_lt _ (Nat.two_pow_pos m))
    have h60 : n3 ≤ 60 := by
      have h1 : l.length ≤ 60 := by
        rw [← hl]
        unfold cutI
        rw [List.length_map, List.length_take]; omega
      have h2 := hN.row.2
      rw [hl] at h2
      omega
    rw [hl] at hN
    have HN := Lib.hid hN.row.rs
    have HLL := Lib.hid hN.row.2
    have hb3 := hN.row.bound
    have HAS := Lib.hid (trAsks_of w3 m a3 n3 c3 l hN.row.rs h60 HLM.out)
    clear hN hl HIT HS2 HR HL
    go_wp2_with fail
    refine HAS.out.mono ?_
    rintro e w4 ⟨a4, c4, S2, rfl, hA⟩
    have HS4 := Lib.hid (HS3.out.trans hA.row.same)
    have HA : Hid (Scr w4 m a4 (n3 + 1) c4 S2) := Lib.hid hA.scr
    have HOP : Hid (∀ s ∈ S2, s.op ≠ 1) := Lib.hid (fun s hs => by have := (hA.ok s hs).2.2; omega)
    have HL4 : Hid (RS itc 2 w4 a3 n3 c3 l) := Lib.hid (HN.out.still hA.row.same)
    have hb4 := hA.row.row.bound
    clear hA HAS HN HS3
    have HONa := Lib.hid (trOnes_of w4 a3 n3 c3 l HL4.out h60)
    go_wp2_with fail
    refine HONa.out.mono ?_
    rintro e woa ⟨oaa, oca, Sa, rfl, hOa⟩
    have HOa := Lib.hid hOa
    have hboa := hOa.row.row.bound
    clear hOa HONa
    go_wp2_with (at_builtin; refine wpList_append (n3 + (n3 + 1)) (Sa.flatMap stc ++ S2.flatMap stc) rfl _ _ _ _ rfl slSt rfl HOa.out.row.row.1 rfl (Rd.src (HA.out.row.still HOa.out.row.same).1 Tryd.underlying27) rfl rfl (by unfold maxLen; omega) (by omega) ?_)
    intro saa sca w5 hG
    have HSCa := Lib.hid (HOa.out.app HLM.out HA.out (Only.refl _ _) rfl hG)
    have HPa : Hid (runL Sa = puts [] l ∧ Sa.length = n3) := Lib.hid ⟨runL_ones (HOa.out.row.row.2.trans (HLL.out).symm) (fun i s hi => ⟨(HOa.out.stp i s hi).1, by obtain ⟨_, ⟨y, h1, h2⟩, _⟩ := HOa.out.stp i s hi; exact ⟨y, h1, h2⟩⟩), HOa.out.row.row.2⟩
    clear hG HOa hboa
    have HTR := Lib.hid (trRun_of w5 m saa (n3 + (n3 + 1)) sca (Sa ++ S2) HSCa.out.1.row (by omega) (fun s hs => HSCa.out.1.ok s hs))
    go_wp2_with fail
    refine HTR.out.mono ?_
    rintro e w6 ⟨ta, tc, Bs, rfl, hr6, hin6, hran6, hs6⟩
    have HS6 := Lib.hid ((HSCa.out.2).trans hs6)
    have hbt := hr6.bound
    obtain ⟨tb, toff, rfl, htb, _⟩ := hr6.at anc_len (by omega)
    have HW6 : Hid (RS anc 3 w6 (some ⟨tb, toff + n3 * 3, none⟩) (n3 + 1) (tc - n3) (Bs.drop n3) ∧ (∀ x ∈ Bs.drop n3, AnIn w6 x) ∧ TellP (puts [] l) S2 (Bs.drop n3)) := Lib.hid (by
      have h1 := RS.last hr6 (n := n3 + 1) (by omega)
      rw [show n3 + (n3 + 1) - (n3 + 1) = n3 by omega] at h1
      have h2 := told_of hran6 HOP.out HPa.out.1
      rw [HPa.out.2] at h2
      exact ⟨h1, fun x hx => hin6 x (List.mem_of_mem_drop hx), h2⟩)
    have HTL := Lib.hid (trTail_at w6 tb toff (n3 + (n3 + 1)) (n3 + 1) tc (by omega) (by omega) hbt.1 hbt.2 (by omega))
    rw [show n3 + (n3 + 1) - (n3 + 1) = n3 by omega] at HTL
    clear hr6 hin6 hran6 hs6 HTR htb HSCa HPa
    go_wp2_with fail
    refine HTL.out.mono ?_
    rintro e w7 ⟨rfl, hs7⟩
    have HS47 : Hid (Same w4 w7) := Lib.hid (HS6.out.trans hs7)
    have HW7 : Hid (∀ wx, Same w7 wx → RS anc 3 wx (some ⟨tb, toff + n3 * 3, none⟩) (n3 + 1) (tc - n3) (Bs.drop n3) ∧ (∀ x ∈ Bs.drop n3, AnIn wx x) ∧ TellP (puts [] l) S2 (Bs.drop n3)) := Lib.hid (fun wx hx => ⟨HW6.out.1.still (hs7.trans hx), fun x hm => (HW6.out.2.1 x hm).still (hs7.trans hx), HW6.out.2.2⟩)
    clear hs7 HTL HS6 HW6
    have HL7 := Lib.hid (HL4.out.still HS47.out)
    have HA7 := Lib.hid (HA.out.still HS47.out)
    go_wp2_with (at_builtin; refine wpList_append (1 + (n3 + 1)) (stc ⟨1, a3, n3, c3, l, some ⟨w7.heap.size, 0, none⟩, 1, 1, [0]⟩ ++ S2.flatMap stc) rfl _ _ _ _ rfl slSt rfl (Go.Proofs.YtcjifjfcjimefaaDoor.heap.Own.of_block (size := 3) (cur := #[.int .i64 1, .slice a3 n3 c3, .slice (some ⟨w7.heap.size, 0, none⟩) 1 1]) (e := 34) (by exact heap_alloc_new' _ _ _ (by simp)) 1 1 (Nat.le_refl _) (by unfold maxLen; omega) rfl (by simp [Value.oneCell'])) rfl (Rd.src (HA7.out.row.still (by repeat (first | exact Only.refl _ _ | apply Only.alloc | apply Only.drew))).1 Tryd.underlying27) rfl rfl (by unfold maxLen; omega) (by omega) ?_)
    intro sa8 sc8 w8 hG
    have HSC8 := Lib.hid (Scr.all HL7.out HLM.out h60 HA7.out rfl hG)
    have HP8 : Hid (runL [⟨1, a3, n3, c3, l, some ⟨w7.heap.size, 0, none⟩, 1, 1, [0]⟩] = puts [] l) := Lib.hid rfl
    clear hG
    have HS78 := Lib.hid HSC8.out.2
    have HTU := Lib.hid (trTurned_of w8 a3 n3 c3 l (HL7.out.still HS78.out) h60)
    go_wp2_with fail
    refine HTU.out.mono ?_
    rintro e w9 ⟨a9, n9, c9, rfl, h9, hN9⟩
    have HS79 := Lib.hid (HS78.out.trans hN9.same)
    have HN9 := Lib.hid hN9.row.rs
    have HS89 := Lib.hid hN9.same
    have hb9 := hN9.row.bound
    have HOM : Hid (∀ y ∈ once l.reverse, y.1 < 2 ^ m) := Lib.hid (fun y hy => HLM.out y (by
      have h1 := (mem_once _ _).1 hy
      exact List.mem_reverse.1 (List.mem_of_find?_eq_some h1)))
    have HOL := Lib.hid hN9.row.2
    clear hN9 HTU
    have HONb := Lib.hid (trOnes_of w9 a9 n9 c9 (once l.reverse) HN9.out (by omega))
    go_wp2_with fail
    refine HONb.out.mono ?_
    rintro e wob ⟨oab, ocb, Sb, rfl, hOb⟩
    have HOb := Lib.hid hOb
    have hbob := hOb.row.row.bound
    clear hOb HONb
    go_wp2_with (at_builtin; refine wpList_append (n9 + (n3 + 1)) (Sb.flatMap stc ++ S2.flatMap stc) rfl _ _ _ _ rfl slSt rfl HOb.out.row.row.1 rfl (Rd.src ((HA7.out.still HS79.out).row.still HOb.out.row.same).1 Tryd.underlying27) rfl rfl (by unfold maxLen; omega) (by omega) ?_)
    intro sab scb w10 hG
    have HSCb := Lib.hid (HOb.out.app HOM.out (HA7.out.still HS79.out) (Only.refl _ _) rfl hG)
    have HPb : Hid (runL Sb = puts [] (once l.reverse) ∧ Sb.length = n9) := Lib.hid ⟨runL_ones (HOb.out.row.row.2.trans (HOL.out).symm) (fun i s hi => ⟨(HOb.out.stp i s hi).1, by obtain ⟨_, ⟨y, h1, h2⟩, _⟩ := HOb.out.stp i s hi; exact ⟨y, h1, h2⟩⟩), HOb.out.row.row.2⟩
    clear hG HOb hbob
    have HS7b := Lib.hid (HS79.out.trans HSCb.out.2)
    have HPB : Hid (runL Sb = puts [] l) := Lib.hid (by rw [HPb.out.1, puts_once])
    have HONc := Lib.hid (trOnes_of w10 a3 n3 c3 l (HL7.out.still HS7b.out) h60)
    go_wp2_with fail
    refine HONc.out.mono ?_
    rintro e woc ⟨oac, occ, Sc, rfl, hOc⟩
    have HOc := Lib.hid hOc
    have hboc := hOc.row.row.bound
    clear hOc HONc
    go_wp2_with (at_builtin; refine wpList_append (n3 + (n3 + 1)) (Sc.flatMap stc ++ S2.flatMap stc) rfl _ _ _ _ rfl slSt rfl HOc.out.row.row.1 rfl (Rd.src ((HA7.out.still HS7b.out).row.still HOc.out.row.same).1 Tryd.underlying27) rfl rfl (by unfold maxLen; omega) (by omega) ?_)
    intro sac scc w11 hG
    have HSCc := Lib.hid (HOc.out.app HLM.out (HA7.out.still HS7b.out) (Only.refl _ _) rfl hG)
    have HPc : Hid (runL Sc = puts [] l ∧ Sc.length = n3) := Lib.hid ⟨runL_ones (HOc.out.row.row.2.trans (HLL.out).symm) (fun i s hi => ⟨(HOc.out.stp i s hi).1, by obtain ⟨_, ⟨y, h1, h2⟩, _⟩ := HOc.out.stp i s hi; exact ⟨y, h1, h2⟩⟩), HOc.out.row.row.2⟩
    clear hG HOc hboc
    have HS7c := Lib.hid (HS7b.out.trans HSCc.out.2)
    have HYRx := Lib.hid (yf.yfRun m HM.out sac (n3 + (n3 + 1)) scc (Sc ++ S2) w11 (HSCc.out.1).row (by omega) (fun s hs => ⟨((HSCc.out.1).ok s hs).1, ((HSCc.out.1).ok s hs).2.2.1, ((HSCc.out.1).ok s hs).2.2.2⟩) (HT.out.still ((HS4.out.trans HS47.out).trans HS7c.out)))
    go_wp2_with fail
    refine HYRx.out.mono ?_
    rintro e wpx ⟨yax, ycx, Asx, rfl, hrx, hinx, hranx, hsx⟩
    have hbtx := hrx.bound
    obtain ⟨ybx, yox, rfl, hybx, _⟩ := hrx.at anc_len (by omega)
    have HWx : Hid (RS anc 3 wpx (some ⟨ybx, yox + n3 * 3, none⟩) (n3 + 1) (ycx - n3) (Asx.drop n3) ∧ (∀ x ∈ Asx.drop n3, AnIn wpx x) ∧ TellP (puts [] l) S2 (Asx.drop n3)) := Lib.hid (by
      have h1 := RS.last hrx (n := n3 + 1) (by omega)
      rw [show n3 + (n3 + 1) - (n3 + 1) = n3 by omega] at h1
      have h2 := told_of hranx HOP.out HPc.out.1
      rw [HPc.out.2] at h2
      exact ⟨h1, fun x hx => hinx x (List.mem_of_mem_drop hx), h2⟩)
    have HTLx := Lib.hid (trTail_at wpx ybx yox (n3 + (n3 + 1)) (n3 + 1) ycx (by omega) (by omega) hbtx.1 hbtx.2 (by omega))
    rw [show n3 + (n3 + 1) - (n3 + 1) = n3 by omega] at HTLx
    have HSBx : Hid (Same w7 wpx) := Lib.hid (HS7c.out.trans hsx)
    have HDAx := Lib.hid hsx
    clear hrx hinx hranx hsx HYRx hybx
    go_wp2_with fail
    refine HTLx.out.mono ?_
    rintro e wqx ⟨rfl, hsqx⟩
    have HSQx : Hid (Same w7 wqx) := Lib.hid (HSBx.out.trans hsqx)
    have HDBx : Hid (Same w11 wqx) := Lib.hid (HDAx.out.trans hsqx)
    have HTSx := Lib.hid (trSame_of wqx (some ⟨ybx, yox + n3 * 3, none⟩) (some ⟨tb, toff + n3 * 3, none⟩) (n3 + 1) (ycx - n3) (tc - n3) (Asx.drop n3) (Bs.drop n3) (HWx.out.1.still hsqx) (HW7.out wqx HSQx.out).1 (fun x hx => (HWx.out.2.1 x hx).still hsqx) (HW7.out wqx HSQx.out).2.1 (told_same HWx.out.2.2 (HW7.out wqx HSQx.out).2.2))
    clear hsqx HTLx HSBx HWx
    go_wp2_with fail
    refine HTSx.out.mono ?_
    rintro e w12 ⟨rfl, hsex⟩
    have HS7x : Hid (Same w7 w12) := Lib.hid (HSQx.out.trans hsex)
    have HDx : Hid (Same w11 w12) := Lib.hid (HDBx.out.trans hsex)
    clear hsex HTSx HSQx
    have HS8x : Hid (Same w8 w12) := Lib.hid (((HS89.out.trans HSCb.out.2).trans HSCc.out.2).trans HDx.out)
    have HYRy := Lib.hid (yf.yfRun m HM.out sa8 (1 + (n3 + 1)) sc8 ([⟨1, a3, n3, c3, l, some ⟨w7.heap.size, 0, none⟩, 1, 1, [0]⟩] ++ S2) w12 (HSC8.out.1.still (HS8x.out)).row (by omega) (fun s hs => ⟨((HSC8.out.1.still (HS8x.out)).ok s hs).1, ((HSC8.out.1.still (HS8x.out)).ok s hs).2.2.1, ((HSC8.out.1.still (HS8x.out)).ok s hs).2.2.2⟩) (HT.out.still ((HS4.out.trans HS47.out).trans HS7x.out)))
    go_wp2_with fail
    refine HYRy.out.mono ?_
    rintro e wpy ⟨yay, ycy, Asy, rfl, hry, hiny, hrany, hsy⟩
    have hbty := hry.bound
    obtain ⟨yby, yoy, rfl, hyby, _⟩ := hry.at anc_len (by omega)
    have HWy : Hid (RS anc 3 wpy (some ⟨yby, yoy + 1 * 3, none⟩) (n3 + 1) (ycy - 1) (Asy.drop 1) ∧ (∀ x ∈ Asy.drop 1, AnIn wpy x) ∧ TellP (puts [] l) S2 (Asy.drop 1)) := Lib.hid (by
      have h1 := RS.last hry (n := n3 + 1) (by omega)
      rw [show 1 + (n3 + 1) - (n3 + 1) = 1 by omega] at h1
      have h2 := told_of hrany HOP.out HP8.out
      rw [show [(⟨1, a3, n3, c3, l, some ⟨w7.heap.size, 0, none⟩, 1, 1, [0]⟩ : Stp)].length = 1 from rfl] at h2
      exact ⟨h1, fun x hx => hiny x (List.mem_of_mem_drop hx), h2⟩)
    have HTLy := Lib.hid (trTail_at wpy yby yoy (1 + (n3 + 1)) (n3 + 1) ycy (by omega) (by omega) hbty.1 hbty.2 (by omega))
    rw [show 1 + (n3 + 1) - (n3 + 1) = 1 by omega] at HTLy
    have HSBy : Hid (Same w7 wpy) := Lib.hid (HS7x.out.trans hsy)
    have HDAy := Lib.hid hsy
    clear hry hiny hrany hsy HYRy hyby
    go_wp2_with fail
    refine HTLy.out.mono ?_
    rintro e wqy ⟨rfl, hsqy⟩
    have HSQy : Hid (Same w7 wqy) := Lib.hid (HSBy.out.trans hsqy)
    have HDBy : Hid (Same w12 wqy) := Lib.hid (HDAy.out.trans hsqy)
    have HTSy := Lib.hid (trSame_of wqy (some ⟨yby, yoy + 1 * 3, none⟩) (some ⟨tb, toff + n3 * 3, none⟩) (n3 + 1) (ycy - 1) (tc - n3) (Asy.drop 1) (Bs.drop n3) (HWy.out.1.still hsqy) (HW7.out wqy HSQy.out).1 (fun x hx => (HWy.out.2.1 x hx).still hsqy) (HW7.out wqy HSQy.out).2.1 (told_same HWy.out.2.2 (HW7.out wqy HSQy.out).2.2))
    clear hsqy HTLy HSBy HWy
    go_wp2_with fail
    refine HTSy.out.mono ?_
    rintro e w13 ⟨rfl, hsey⟩
    have HS7y : Hid (Same w7 w13) := Lib.hid (HSQy.out.trans hsey)
    have HDy : Hid (Same w12 w13) := Lib.hid (HDBy.out.trans hsey)
    clear hsey HTSy HSQy
    have HSbx : Hid (Same w10 w13) := Lib.hid ((HSCc.out.2.trans HDx.out).trans HDy.out)
    have HYRz := Lib.hid (yf.yfRun m HM.out sab (n9 + (n3 + 1)) scb (Sb ++ S2) w13 (HSCb.out.1.still (HSbx.out)).row (by omega) (fun s hs => ⟨((HSCb.out.1.still (HSbx.out)).ok s hs).1, ((HSCb.out.1.still (HSbx.out)).ok s hs).2.2.1, ((HSCb.out.1.still (HSbx.out)).ok s hs).2.2.2⟩) (HT.out.still ((HS4.out.trans HS47.out).trans HS7y.out)))
    go_wp2_with fail
    refine HYRz.out.mono ?_
    rintro e wpz ⟨yaz, ycz, Asz, rfl, hrz, hinz, hranz, hsz⟩
    have hbtz := hrz.bound
    obtain ⟨ybz, yoz, rfl, hybz, _⟩ := hrz.at anc_len (by omega)
    have HWz : Hid (RS anc 3 wpz (some ⟨ybz, yoz + n9 * 3, none⟩) (n3 + 1) (ycz - n9) (Asz.drop n9) ∧ (∀ x ∈ Asz.drop n9, AnIn wpz x) ∧ TellP (puts [] l) S2 (Asz.drop n9)) := Lib.hid (by
      have h1 := RS.last hrz (n := n3 + 1) (by omega)
      rw [show n9 + (n3 + 1) - (n3 + 1) = n9 by omega] at h1
      have h2 := told_of hranz HOP.out HPB.out
      rw [HPb.out.2] at h2
      exact ⟨h1, fun x hx => hinz x (List.mem_of_mem_drop hx), h2⟩)
    have HTLz := Lib.hid (trTail_at wpz ybz yoz (n9 + (n3 + 1)) (n3 + 1) ycz (by omega) (by omega) hbtz.1 hbtz.2 (by omega))
    rw [show n9 + (n3 + 1) - (n3 + 1) = n9 by omega] at HTLz
    have HSBz : Hid (Same w7 wpz) := Lib.hid (HS7y.out.trans hsz)
    have HDAz := Lib.hid hsz
    clear hrz hinz hranz hsz HYRz hybz
    go_wp2_with fail
    refine HTLz.out.mono ?_
    rintro e wqz ⟨rfl, hsqz⟩
    have HSQz : Hid (Same w7 wqz) := Lib.hid (HSBz.out.trans hsqz)
    have HDBz : Hid (Same w13 wqz) := Lib.hid (HDAz.out.trans hsqz)
    have HTSz := Lib.hid (trSame_of wqz (some ⟨ybz, yoz + n9 * 3, none⟩) (some ⟨tb, toff + n3 * 3, none⟩) (n3 + 1) (ycz - n9) (tc - n3) (Asz.drop n9) (Bs.drop n3) (HWz.out.1.still hsqz) (HW7.out wqz HSQz.out).1 (fun x hx => (HWz.out.2.1 x hx).still hsqz) (HW7.out wqz HSQz.out).2.1 (told_same HWz.out.2.2 (HW7.out wqz HSQz.out).2.2))
    clear hsqz HTLz HSBz HWz
    go_wp2_with fail
    refine HTSz.out.mono ?_
    rintro e w14 ⟨rfl, hsez⟩
    have HS7z : Hid (Same w7 w14) := Lib.hid (HSQz.out.trans hsez)
    have HDz : Hid (Same w13 w14) := Lib.hid (HDBz.out.trans hsez)
    clear hsez HTSz HSQz
    go_wp2_with fail
    go_ret
    exact ⟨rfl, ((HS4.out.trans HS47.out).trans HS7z.out).below (Nat.le_refl _) (fun _ _ h => h)⟩
theorem walk (W : World) (v0 v1 : Value) (r0 : Reads Tryd.prog W 5 v0) (r1 : Reads Tryd.prog W 22 v1) (hT : Tabs W) :
    Calls Tryd.prog 3 #[v0, v1] W fun e w' => e = .returned (.bool true) ∧ Below W.heap.size W w' := by
  obtain ⟨q, rfl, hq⟩ := r0.int Tryd.underlying5
  have hq' := wf_u8 hq
  obtain ⟨Q, rfl⟩ := Int.eq_ofNat_of_zero_le hq'.1
  obtain ⟨a, n, cap, l, rfl, h, hl⟩ := read_items r1
  exact main Q (by omega) a n cap l W h hl hT
end Go.Proofs.YtcjifjfcjimefaaDoor.walkFnYFTurned

/-
  An AVL tree's insert.
-/
import Derived.Test.YtdamanckgmkbiaaAvFin
import Derived.StillTailTactics
namespace Go.Proofs.Ytdamanckgmkbiaa.av
open Go.RowKit Go.Proofs.Ytdamanckgmkbiaa.base Go.Proofs.Ytdamanckgmkbiaa.heap Go.Proofs.Ytdamanckgmkbiaa.rows
set_option linter.unusedVariables false
theorem InsP.drew {x u : Int} {g p0 : Nat} {T : Tre} {w : World} {e : Ending} {w' : World} (h : InsP x u g p0 T w e w') : InsP x u g p0 T w e w'.drew := by
  obtain ⟨h1, T', d, c0, c1, h2, h3, h4, h5, h6, h7, h8, h9⟩ := h
  exact ⟨h1, T', d, c0, c1, h2, h3.keep (S := fun _ => False) (Only.refl _ _).drew (fun _ _ e => e), h4, h5, h6, h7, h8.drew, h9⟩
section
variable {g dm p0 q : Nat} {x u : Int} {T : Tre} {w w3 wr wB : World}
theorem En.mid {f : Fr} {z : List Fr} (h : En g dm p0 x T w3 wr (f :: z)) (hB : Beg g dm p0 T w w3) (hS : Same (wr.setCell ⟨g, 1, none⟩ (.int .u64 ((T.size + 1 : Nat) : Int))) wB) :
    FrM wB f none ∧ Ob wB g (at0 p0) (T.size + 1) 0 none none ∧ Dm wB dm (at0 p0) ∧ g ≠ f.p ∧ dm ≠ f.p ∧ g ≠ dm := by
  have hmf := h.zm.mine f (List.mem_cons_self ..)
  have hgf : g ≠ f.p := fun e => hB.mine.1 (e ▸ hmf)
  have hdf : dm ≠ f.p := fun e => hB.mine.2 (e ▸ hmf)
  have hgd : g ≠ dm := by have := hB.gl; have := hB.ds; omega
  have o1 : Only (fun y => y = g) wr wB := (only2 (Only.refl (fun y => y = g) wr) rfl).trans hS (fun _ _ f => f.elim)
  have hob3 : Ob wr g (at0 p0) T.size 0 none none := hB.ob.keep h.only hB.mine.1
  have hdy3 : Dm wr dm (at0 p0) := h.only.obj hB.dy hB.mine.2
  exact ⟨Nd.keep h.zm.1 o1 (fun e => hgf e.symm), (hob3.setn (T.size + 1)).still hS, o1.obj hdy3 (fun e => hgd e.symm), hgf, hdf, hgd⟩
theorem FrM.liv {f : Fr} {c : Option Nat} (h : FrM wr f c) : (∃ c1, wr.cell? ⟨f.p, 1, none⟩ = some (.pointer c1)) ∧ (∃ c2, wr.cell? ⟨f.p, 2, none⟩ = some (.pointer c2)) ∧ (∀ i, wr.frozen? ⟨f.p, i, none⟩ = false) ∧ f.p < wr.heap.size := ⟨⟨_, Nd.lc h⟩, ⟨_, Nd.rc h⟩, Nd.fr h, Nd.lt h⟩
end
set_option maxRecDepth 100000 in
set_option maxHeartbeats 8000000 in
theorem insC {w : World} {g p0 : Nat} {b k v d : Int} {l r : Tre} {c0 c1 : Option Addr} (h : Ob w g (at0 p0) (Tre.nd p0 b l k v r).size d c0 c1) (hm : InM w (.nd p0 b l k v r)) (hg : ¬ (Tre.nd p0 b l k v r).blk g) (hb : (Tre.nd p0 b l k v r).Bal) (ho : (Tre.nd p0 b l k v r).Ord) (hs : (Tre.nd p0 b l k v r).size < 4611686018427387904) (x u : Int) :
    Calls Try.prog 34 #[.pointer (at0 g), ent x u] w (InsP x u g p0 (.nd p0 b l k v r) w) := by
  have e0 := h.root
  have l0 := h.lt
  have HR := Lib.hid (resetC h)
  have HH : Hid (InM w (.nd p0 b l k v r) ∧ ¬ (Tre.nd p0 b l k v r).blk g ∧ (Tre.nd p0 b l k v r).Bal ∧ (Tre.nd p0 b l k v r).Ord ∧ (Tre.nd p0 b l k v r).size < 4611686018427387904) := Lib.hid ⟨hm, hg, hb, ho, hs⟩
  obtain ⟨T, hT⟩ : ∃ T, Tre.nd p0 b l k v r = T := ⟨_, rfl⟩
  rw [hT] at HR HH ⊢
  have HT := Lib.hid hT
  clear h hm hg hb ho hs hT
  go_enter Try.func34, Try.ntmps34
  go_upto_region 10 with (first | (go_at_call 38; refine HR.out.mono ?_; rintro e w1 ⟨rfl, hB, hO, hz⟩; have HB := Lib.hid (And.intro hB (And.intro hO hz)); have e2 : w1.cell? ⟨g, 2, none⟩ = some (.int .i8 0) := block_cell hB rfl; have e3 : w1.cell? ⟨g, 3, none⟩ = some (.pointer none) := block_cell hB rfl; have e4 : w1.cell? ⟨g, 4, none⟩ = some (.pointer none) := block_cell hB rfl; have e5 : w1.cell? ⟨g, 5, none⟩ = some .nilIface := block_cell hB rfl; have r1 := hB.root; have l1 := hB.lt; clear hB hO hz) | fail)
  have HD0 := heap_alloc_new' w1 (.cells #[.int .i8 0, .pointer none, .pointer none, .nilIface] 80) _ rfl
  have HS0 : Same w1 (w1.alloc (.cells #[.int .i8 0, .pointer none, .pointer none, .nilIface] 80)) := (Only.refl _ _).alloc _
  have hz2 : (w1.alloc (.cells #[.int .i8 0, .pointer none, .pointer none, .nilIface] 80)).heap.size = w1.heap.size + 1 := by simp only [World.alloc, Array.size_push]
  obtain ⟨w2, hw2⟩ : ∃ w2, w1.alloc (.cells #[.int .i8 0, .pointer none, .pointer none, .nilIface] 80) = w2 := ⟨_, rfl⟩
  rw [hw2] at HD0 HS0 hz2 ⊢
  clear hw2
  obtain ⟨dm, hdm⟩ : ∃ dm, w1.heap.size = dm := ⟨_, rfl⟩
  have HF : Hid (Dm w2 dm none ∧ Ob w2 g (at0 p0) T.size 0 none none ∧ Only (fun y => y = g) w w2 ∧ w.heap.size ≤ dm ∧ dm < w2.heap.size ∧ g < dm) := Lib.hid (by
    rw [hdm] at HD0 hz2
    have hO2 : Only (fun y => y = g) w w2 := HB.out.2.1.trans HS0 (fun _ _ f => f.elim)
    exact ⟨HD0, HB.out.1.still HS0, hO2, hdm ▸ HB.out.2.1.size, by omega, by omega⟩)
  rw [hdm] at HD0 ⊢
  clear HB hz2 HS0 hdm e2 e3 e4 e5 r1 l1 HD0
  have r2 := HF.out.2.1.root
  have l2 := HF.out.2.1.lt
  have d2 : w2.cell? ⟨dm, 2, none⟩ = some (.pointer none) := block_cell HF.out.1 rfl
  have f2 : ∀ i, w2.frozen? ⟨dm, i, none⟩ = false := fun i => block_free HF.out.1
  have ld2 := lt_of_heap HF.out.1
  go_region
  go_upto_region 11 with fail
  obtain ⟨w3, hw3⟩ : ∃ w3, (w2.setCell ⟨dm, 2, none⟩ (.pointer (at0 p0))).drew = w3 := ⟨_, rfl⟩
  have HB3 : Hid (∀ n, Beg g dm p0 T w (w3.drewN n) ∧ Dn g dm p0 x T (w3.drewN n) (w3.drewN n) [] p0 b l k v r p0 dm) := Lib.hid (fun n => by
    obtain ⟨h1, h2, h3, h4, h5, h6⟩ := HF.out
    obtain ⟨g1, g2, g3, g4, g5⟩ := HH.out
    have hO : Only (fun y => y = g) w w3 := by
      rw [← hw3]
      refine Only.drew ?_
      exact (h3.mono (fun _ _ e => e)).setCell ⟨dm, 2, none⟩ _ (fun e => absurd e (by show ¬ dm < _; omega))
    have hs3 : w3.heap.size = w2.heap.size := by rw [← hw3]; exact set_size _ _ _
    have hgp : g ≠ p0 := fun e => g2 (by rw [← HT.out]; exact .inl e)
    have hdm : Dm w3 dm (at0 p0) := by rw [← hw3]; exact setCell_heap h1 2 _
    have hob : Ob w3 g (at0 p0) T.size 0 none none := by rw [← hw3]; exact h2.off (by omega)
    have hpl : p0 < w.heap.size := InM.lt g1 p0 (by rw [← HT.out]; exact .inl rfl)
    have hsn : (w3.drewN n).heap.size = w2.heap.size := hs3
    refine ⟨⟨hdm, hob, hO.drewN n, h4, by omega, l0, hgp, hpl, g4⟩, ?_⟩
    rw [← HT.out] at g1 g2 g3 ⊢
    exact dn_start g1 g2 g3 (hO.drewN n) h4 (by omega))
  rw [hw3]
  clear hw3 HF r2 l2 d2 f2 ld2 HT e0
  have d3 : w3.cell? ⟨dm, 2, none⟩ = some (.pointer (at0 p0)) := block_cell (HB3.out 0).1.dy rfl
  go_quiet (fail)
  obtain ⟨w4, hw4⟩ : ∃ w4, w3.drewN nq = w4 := ⟨_, rfl⟩
  have HB4 := Lib.hid (HB3.out nq)
  rw [hw4] at HB4 ⊢
  clear hw4 HB3 d3 HR l0
  go_upto_block 0 with fail
  go_cut [6, 7, 8, 10, 11] (fun s6 s7 s8 s10 s11 wx => ∃ (f : Fr) (z : List Fr) (sp hp : Nat), s6 = .pointer (at0 f.p) ∧ s7 = .pointer (at0 sp) ∧ s8 = .pointer none ∧ s10 = .int .i64 (if f.right then 1 else 0) ∧ s11 = .pointer (at0 hp) ∧ Hid (En g dm p0 x T w4 wx (f :: z) ∧ ∃ Z2 fs Z1, Cut dm (f :: z) Z2 fs Z1 sp hp))
  case first =>
    go_wp2_with fail
    go_loopg [6, 7, 11] T.size (fun kx s6 s7 s11 wr => ∃ (z : List Fr) (p : Nat) (b : Int) (l : Tre) (k v : Int) (r : Tre) (sp hp : Nat), s6 = .pointer (at0 p) ∧ s7 = .pointer (at0 sp) ∧ s11 = .pointer (at0 hp) ∧ l.size + r.size < kx ∧ Hid (Dn g dm p0 x T w4 wr z p b l k v r sp hp))
    case atStart => exact ⟨[], p0, b, l, k, v, r, p0, dm, rfl, rfl, rfl, by have := HB4.out.2.sz; have e : l.size + r.size + 1 = T.size := this; omega, Lib.hid HB4.out.2⟩
    case round =>
      obtain ⟨z, p, b, l, k, v, r, sp, hp, rfl, rfl, rfl, hk, HI⟩ := hrel
      have HD : Hid (∀ wx, Same wr wx → Dn g dm p0 x T w4 wx z p b l k v r sp hp) := Lib.hid (fun wx hx => HI.out.still hx)
      have e3 := HI.out.nd.en
      have HC := Lib.hid (fun wx => compareC k v x u wx)
      have m1 := methodE k v
      have q1 := nilE k v
      have HB5 := Lib.hid HB4.out.1
      clear HI HB4 HH
      rcases Int.lt_trichotomy k x with hkx | hkx | hkx
      ·
        have hs : sgn k x = -1 := if_pos hkx
        have HX := Lib.hid hkx
        unfold CmpP at HC
        simp only [hs] at HC
        have HNM := Lib.hid normN
        clear hs hkx
        cases r with
        | nil =>
          have HK : Hid (∀ wx, Same wr wx → True) := Lib.hid (fun _ _ => trivial)
          go_wp2_with (first | (go_at_call 65; refine (HC.out _).mono ?_; rintro e wc ⟨rfl, hsc⟩; have HD2 := Lib.hid (HD.out wc hsc); have y0 := HD2.out.nd.en; have y1 : wc.cell? ⟨p, 1, none⟩ = some (.pointer (ad l.ptr)) := HD2.out.nd.lc; have y2 : wc.cell? ⟨p, 2, none⟩ = some (.pointer none) := HD2.out.nd.rc; have yf := HD2.out.nd.fr; have yl := HD2.out.nd.lt; have HK2 := Lib.hid (HK.out wc hsc); clear hsc) | (go_at_call 39; refine (HNM.out _).mono ?_; rintro e w' ⟨rfl, rfl⟩) | fail)
          go_meet
          exact ⟨⟨p, b, true, k, v, l⟩, z, sp, hp, rfl, rfl, rfl, rfl, rfl, Lib.hid ⟨HD2.out.end_right HX.out, Sel.cut (f := ⟨p, b, true, k, v, l⟩) HD2.out.sel⟩⟩
        | nd pr br rl rk rv rr =>
          have HK : Hid (∀ wx, Same wr wx → Calls Try.prog 36 #[.pointer (at0 pr)] wx (CpP br (ad rl.ptr) (ad rr.ptr) rk rv wx)) := Lib.hid (fun wx hx => copyN (HD.out wx hx).ir.1)
          have hk' : rl.size + rr.size < gk - 1 := by
            have e : l.size + (rl.size + rr.size + 1) < gk := hk
            omega
          have hk2 : 0 < gk := by omega
          clear hk
          by_cases hbr : br = 0
          · subst hbr
            go_wp2_with (first | (go_at_call 65; refine (HC.out _).mono ?_; rintro e wc ⟨rfl, hsc⟩; have HD2 := Lib.hid (HD.out wc hsc); have y0 := HD2.out.nd.en; have y1 : wc.cell? ⟨p, 1, none⟩ = some (.pointer (ad l.ptr)) := HD2.out.nd.lc; have y2 : wc.cell? ⟨p, 2, none⟩ = some (.pointer (at0 pr)) := HD2.out.nd.rc; have yf := HD2.out.nd.fr; have yl := HD2.out.nd.lt; have HK2 := Lib.hid (HK.out wc hsc); clear hsc) | (go_at_call 39; refine (HNM.out _).mono ?_; rintro e w' ⟨rfl, rfl⟩) | (go_at_call 36; refine (HK2.out).mono ?_; go_loud (rintro e w5 ⟨rfl, hN, hS, hz⟩; have HN := Lib.hid (And.intro hN hS); have z0 := hN.bal; have zl := hN.lt; have yf5 := (HD2.out.nd.still hS).fr; have yl5 := (HD2.out.nd.still hS).lt; have yc1 := (HD2.out.nd.still hS).lc; have yc2 := (HD2.out.nd.still hS).rc; have hpq : wc.heap.size ≠ p := Ne.symm (Nat.ne_of_lt yl); have hpq' : p ≠ wc.heap.size := Nat.ne_of_lt yl; clear hN hS hz)) | fail)
            go_roundg (gk - 1)
            case measure => omega
            case rel => exact ⟨⟨p, b, true, k, v, l⟩ :: z, wc.heap.size, 0, rl, rk, rv, rr, sp, hp, rfl, rfl, rfl, hk', Lib.hid (HD2.out.right HX.out HN.out.1 HN.out.2 (Sel.down (f := ⟨p, b, true, k, v, l⟩) HD2.out.sel rfl))⟩
          · go_wp2_with (first | (go_at_call 65; refine (HC.out _).mono ?_; rintro e wc ⟨rfl, hsc⟩; have HD2 := Lib.hid (HD.out wc hsc); have y0 := HD2.out.nd.en; have y1 : wc.cell? ⟨p, 1, none⟩ = some (.pointer (ad l.ptr)) := HD2.out.nd.lc; have y2 : wc.cell? ⟨p, 2, none⟩ = some (.pointer (at0 pr)) := HD2.out.nd.rc; have yf := HD2.out.nd.fr; have yl := HD2.out.nd.lt; have HK2 := Lib.hid (HK.out wc hsc); clear hsc) | (go_at_call 39; refine (HNM.out _).mono ?_; rintro e w' ⟨rfl, rfl⟩) | (go_at_call 36; refine (HK2.out).mono ?_; go_loud (rintro e w5 ⟨rfl, hN, hS, hz⟩; have HN := Lib.hid (And.intro hN hS); have z0 := hN.bal; have zl := hN.lt; have yf5 := (HD2.out.nd.still hS).fr; have yl5 := (HD2.out.nd.still hS).lt; have yc1 := (HD2.out.nd.still hS).lc; have yc2 := (HD2.out.nd.still hS).rc; have hpq : wc.heap.size ≠ p := Ne.symm (Nat.ne_of_lt yl); have hpq' : p ≠ wc.heap.size := Nat.ne_of_lt yl; clear hN hS hz)) | fail)
            go_roundg (gk - 1)
            case measure => omega
            case rel => exact ⟨⟨p, b, true, k, v, l⟩ :: z, wc.heap.size, br, rl, rk, rv, rr, wc.heap.size, p, rfl, rfl, rfl, hk', Lib.hid (HD2.out.right HX.out HN.out.1 HN.out.2 (Sel.here (f := ⟨p, b, true, k, v, l⟩) hbr))⟩
      ·
        have hs : sgn k x = 0 := by unfold sgn; rw [if_neg (by omega), if_neg (by omega)]
        subst hkx
        unfold CmpP at HC
        simp only [hs] at HC
        have HNM := Lib.hid normZ
        have HK : Hid (∀ wx, Same wr wx → True) := Lib.hid (fun _ _ => trivial)
        clear hs
        go_wp2_with (first | (go_at_call 65; refine (HC.out _).mono ?_; rintro e wc ⟨rfl, hsc⟩; have HD2 := Lib.hid (HD.out wc hsc); have y0 := HD2.out.nd.en; have y1 : wc.cell? ⟨p, 1, none⟩ = some (.pointer (ad l.ptr)) := HD2.out.nd.lc; have y2 : wc.cell? ⟨p, 2, none⟩ = some (.pointer (ad r.ptr)) := HD2.out.nd.rc; have yf := HD2.out.nd.fr; have yl := HD2.out.nd.lt; have HK2 := Lib.hid (HK.out wc hsc); clear hsc) | (go_at_call 39; refine (HNM.out _).mono ?_; rintro e w' ⟨rfl, rfl⟩) | fail)
        go_ret
        exact HD2.out.same u HB5.out
      ·
        have hs : sgn k x = 1 := by unfold sgn; rw [if_neg (by omega), if_pos hkx]
        have HX := Lib.hid hkx
        unfold CmpP at HC
        simp only [hs] at HC
        have HNM := Lib.hid normP
        clear hs hkx
        cases l with
        | nil =>
          have HK : Hid (∀ wx, Same wr wx → True) := Lib.hid (fun _ _ => trivial)
          go_wp2_with (first | (go_at_call 65; refine (HC.out _).mono ?_; rintro e wc ⟨rfl, hsc⟩; have HD2 := Lib.hid (HD.out wc hsc); have y0 := HD2.out.nd.en; have y1 : wc.cell? ⟨p, 1, none⟩ = some (.pointer none) := HD2.out.nd.lc; have y2 : wc.cell? ⟨p, 2, none⟩ = some (.pointer (ad r.ptr)) := HD2.out.nd.rc; have yf := HD2.out.nd.fr; have yl := HD2.out.nd.lt; have HK2 := Lib.hid (HK.out wc hsc); clear hsc) | (go_at_call 39; refine (HNM.out _).mono ?_; rintro e w' ⟨rfl, rfl⟩) | fail)
          go_meet
          exact ⟨⟨p, b, false, k, v, r⟩, z, sp, hp, rfl, rfl, rfl, rfl, rfl, Lib.hid ⟨HD2.out.end_left HX.out, Sel.cut (f := ⟨p, b, false, k, v, r⟩) HD2.out.sel⟩⟩
        | nd pr br rl rk rv rr =>
          have HK : Hid (∀ wx, Same wr wx → Calls Try.prog 36 #[.pointer (at0 pr)] wx (CpP br (ad rl.ptr) (ad rr.ptr) rk rv wx)) := Lib.hid (fun wx hx => copyN (HD.out wx hx).il.1)
          have hk' : rl.size + rr.size < gk - 1 := by
            have e : (rl.size + rr.size + 1) + r.size < gk := hk
            omega
          have hk2 : 0 < gk := by omega
          clear hk
          by_cases hbr : br = 0
          · subst hbr
            go_wp2_with (first | (go_at_call 65; refine (HC.out _).mono ?_; rintro e wc ⟨rfl, hsc⟩; have HD2 := Lib.hid (HD.out wc hsc); have y0 := HD2.out.nd.en; have y1 : wc.cell? ⟨p, 1, none⟩ = some (.pointer (at0 pr)) := HD2.out.nd.lc; have y2 : wc.cell? ⟨p, 2, none⟩ = some (.pointer (ad r.ptr)) := HD2.out.nd.rc; have yf := HD2.out.nd.fr; have yl := HD2.out.nd.lt; have HK2 := Lib.hid (HK.out wc hsc); clear hsc) | (go_at_call 39; refine (HNM.out _).mono ?_; rintro e w' ⟨rfl, rfl⟩) | (go_at_call 36; refine (HK2.out).mono ?_; go_loud (rintro e w5 ⟨rfl, hN, hS, hz⟩; have HN := Lib.hid (And.intro hN hS); have z0 := hN.bal; have zl := hN.lt; have yf5 := (HD2.out.nd.still hS).fr; have yl5 := (HD2.out.nd.still hS).lt; have yc1 := (HD2.out.nd.still hS).lc; have yc2 := (HD2.out.nd.still hS).rc; have hpq : wc.heap.size ≠ p := Ne.symm (Nat.ne_of_lt yl); have hpq' : p ≠ wc.heap.size := Nat.ne_of_lt yl; clear hN hS hz)) | fail)
            go_roundg (gk - 1)
            case measure => omega
            case rel => exact ⟨⟨p, b, false, k, v, r⟩ :: z, wc.heap.size, 0, rl, rk, rv, rr, sp, hp, rfl, rfl, rfl, hk', Lib.hid (HD2.out.left HX.out HN.out.1 HN.out.2 (Sel.down (f := ⟨p, b, false, k, v, r⟩) HD2.out.sel rfl))⟩
          · go_wp2_with (first | (go_at_call 65; refine (HC.out _).mono ?_; rintro e wc ⟨rfl, hsc⟩; have HD2 := Lib.hid (HD.out wc hsc); have y0 := HD2.out.nd.en; have y1 : wc.cell? ⟨p, 1, none⟩ = some (.pointer (at0 pr)) := HD2.out.nd.lc; have y2 : wc.cell? ⟨p, 2, none⟩ = some (.pointer (ad r.ptr)) := HD2.out.nd.rc; have yf := HD2.out.nd.fr; have yl := HD2.out.nd.lt; have HK2 := Lib.hid (HK.out wc hsc); clear hsc) | (go_at_call 39; refine (HNM.out _).mono ?_; rintro e w' ⟨rfl, rfl⟩) | (go_at_call 36; refine (HK2.out).mono ?_; go_loud (rintro e w5 ⟨rfl, hN, hS, hz⟩; have HN := Lib.hid (And.intro hN hS); have z0 := hN.bal; have zl := hN.lt; have yf5 := (HD2.out.nd.still hS).fr; have yl5 := (HD2.out.nd.still hS).lt; have yc1 := (HD2.out.nd.still hS).lc; have yc2 := (HD2.out.nd.still hS).rc; have hpq : wc.heap.size ≠ p := Ne.symm (Nat.ne_of_lt yl); have hpq' : p ≠ wc.heap.size := Nat.ne_of_lt yl; clear hN hS hz)) | fail)
            go_roundg (gk - 1)
            case measure => omega
            case rel => exact ⟨⟨p, b, false, k, v, r⟩ :: z, wc.heap.size, br, rl, rk, rv, rr, wc.heap.size, p, rfl, rfl, rfl, hk', Lib.hid (HD2.out.left HX.out HN.out.1 HN.out.2 (Sel.here (f := ⟨p, b, false, k, v, r⟩) hbr))⟩
  case rest =>
    obtain ⟨f, z, sp, hp, rfl, rfl, rfl, rfl, rfl, HE⟩ := hcut
    have HB5 := Lib.hid HB4.out.1
    have HW : Hid (∀ wx, Same (wc.setCell ⟨g, 1, none⟩ (.int .u64 ((T.size + 1 : Nat) : Int))) wx → FrM wx f none ∧ Ob wx g (at0 p0) (T.size + 1) 0 none none ∧ Dm wx dm (at0 p0) ∧ g ≠ f.p ∧ dm ≠ f.p ∧ g ≠ dm) := Lib.hid (fun wx hx => HE.out.1.mid HB5.out hx)
    have HNN := Lib.hid (fun wx => newE x u wx)
    have hob : Ob wc g (at0 p0) T.size 0 none none := HB5.out.ob.keep HE.out.1.only HB5.out.mine.1
    have e1 := hob.num
    have f1 := hob.fr
    have l1 := hob.lt
    have hs := HH.out.2.2.2.2
    clear hob HB4 HH
    go_upto_region 34 with (first | (go_at_call 37; refine (HNN.out _).mono ?_; go_loud (rintro e w5 ⟨rfl, hN, hS, hz⟩; have HN := Lib.hid (And.intro hN hS); clear hN hS hz)) | fail)
    obtain ⟨hfr, hob, hdm, n1, n2, n3⟩ := HW.out w5 HN.out.2
    obtain ⟨⟨c1, y1⟩, ⟨c2, y2⟩, yf, yl⟩ := hfr.liv
    have HN3 := Lib.hid (And.intro n1 (And.intro n2 n3))
    have e0 := hob.root
    have fg := hob.fr
    have lg := hob.lt
    have d2 : w5.cell? ⟨dm, 2, none⟩ = some (.pointer (at0 p0)) := block_cell hdm rfl
    clear hfr hob hdm e1 f1 l1 HW HNN
    go_cut [10] (fun s10 wx => (∃ i, s10 = .int .i64 i) ∧ wx = w5.setCell ⟨f.p, if f.right then 2 else 1, none⟩ (.pointer (at0 wc.heap.size)))
    case first =>
      clear e0 fg lg d2 HN3 n1 n2 n3
      cases hd : f.right with
      | false =>
        simp only [Bool.false_eq_true, if_false]
        go_wp2_with fail
        go_meet
        exact ⟨⟨_, rfl⟩, by rw [hd]; rfl⟩
      | true =>
        simp only [if_true]
        go_wp2_with fail
        go_meet
        exact ⟨⟨_, rfl⟩, by rw [hd]; rfl⟩
    case rest => 
      obtain ⟨⟨i10, rfl⟩, rfl⟩ := hcut
      have hq1 : f.p ≠ g := Ne.symm n1
      have hq2 : f.p ≠ dm := Ne.symm n2
      have hq3 : dm ≠ g := Ne.symm n3
      clear c1 y1 c2 y2 yf
      go_upto_region 36 with fail
      have HU : Hid (Up g dm p0 x u T w4 ((w5.setCell ⟨f.p, if f.right then 2 else 1, none⟩ (.pointer (at0 wc.heap.size))).setCell ⟨g, 0, none⟩ (.pointer (at0 p0))) (f :: z) wc.heap.size) := Lib.hid (HE.out.1.hang HB5.out (by have h := HN.out.1; rw [set_size] at h; exact h) HN.out.2)
      clear e0 fg lg d2 hq1 hq2 hq3 n1 n2 n3 HN3 HN yl
      obtain ⟨w6, hw6⟩ : ∃ w6, ((w5.setCell ⟨f.p, if f.right then 2 else 1, none⟩ (.pointer (at0 wc.heap.size))).setCell ⟨g, 0, none⟩ (.pointer (at0 p0))) = w6 := ⟨_, rfl⟩
      rw [hw6] at HU ⊢
      clear hw6
      obtain ⟨q, hq⟩ : ∃ q, wc.heap.size = q := ⟨_, rfl⟩
      rw [hq] at HU ⊢
      clear hq
      obtain ⟨HEn, Z2, fs, Z1, hF, hsp, hhp, h0, h1⟩ := HE.out
      subst hsp
      subst hhp
      have HP : Hid (Way x (f :: z) ∧ (plug (f :: z) .nil).Bal ∧ (plug (f :: z) .nil).toL = T.toL ∧ T.look x = none ∧ (f :: z) = Z2 ++ fs :: Z1 ∧ (∀ h ∈ Z2, h.b = 0) ∧ (fs.b ≠ 0 ∨ Z1 = []) ∧ ∀ c, tip (f :: z) c = some p0) := Lib.hid ⟨HEn.way, HEn.bal, HEn.toL, HEn.no, hF, h0, h1, HEn.top⟩
      clear HE HEn hF h0 h1
      have HU2 : Hid (Up g dm p0 x u T w4 w6 (Z2 ++ fs :: Z1) q) := Lib.hid (by have h := HU.out; rw [HP.out.2.2.2.2.1] at h; exact h)
      clear HU
      obtain ⟨F, hF⟩ : ∃ F, f :: z = F := ⟨_, rfl⟩
      rw [hF] at HP
      clear hF
      have hlen : (Z2 ++ [fs]).length < Z2.length + 2 := by simp
      go_wp2_with fail
      go_loopg [6, 10] (Z2.length + 2) (fun kx s6 s10 wr => ∃ (V M : List Fr) (i : Int), V.reverse ++ M = Z2 ++ [fs] ∧ V.length < kx ∧ s6 = .pointer (at0 (nx q V)) ∧ s10 = .int .i64 i ∧ Hid (Up g dm p0 x u T w4 wr (V.reverse ++ (heavies M ++ Z1)) q))
      case atStart => exact ⟨(Z2 ++ [fs]).reverse, [], i10, by simp, by simp, by simp [nx], rfl, Lib.hid (by have h := HU2.out; simpa [heavies] using h)⟩
      case round =>
        obtain ⟨V, M, i, hVM, hk, rfl, rfl, HI⟩ := hrel
        cases V with
        | nil =>
          rw [show nx q [] = q from rfl]
          have hNe := neq_pp HI.out.nq.liv HI.out.nq.liv
          rw [beq_self_eq_true] at hNe
          have hM : M = Z2 ++ [fs] := hVM
          subst hM
          have HU3 : Hid (∀ wx, Same wr wx → Up g dm p0 x u T w4 wx (heavies Z2 ++ fs.heavy :: Z1) q) := Lib.hid (fun wx hx => by
            have h := HI.out.still hx
            have e : ([] : List Fr).reverse ++ (heavies (Z2 ++ [fs]) ++ Z1) = heavies Z2 ++ fs.heavy :: Z1 := by simp [heavies]
            rw [e] at h
            exact h)
          have hfr : FrM wr fs.heavy _ := (ZM.app.1 (HU3.out wr (Only.refl _ _)).zm).2.1.1
          have y0 : wr.cell? ⟨fs.p, 0, none⟩ = some (.int .i8 fs.heavy.b) := Nd.bal hfr
          have y3 : wr.cell? ⟨fs.p, 3, none⟩ = some (ent fs.k fs.v) := Nd.en hfr
          have hfs : fs ∈ F := by rw [HP.out.2.2.2.2.1]; simp
          have hbf := plug_b F HP.out.2.1 fs hfs
          have hbh : -2 ≤ fs.heavy.b ∧ fs.heavy.b ≤ 2 := by unfold Fr.heavy; cases fs.right <;> simp <;> omega
          have hd1 := hbh.1
          have hd2 := hbh.2
          have HA := Lib.hid (abs_any fs.heavy.b (by omega) (by omega))
          have hg := List.all_eq_true.1 gt_ok _ (smalls_mem (d := fs.heavy.b) (by omega) (by omega))
          simp only [beq_iff_eq] at hg
          obtain ⟨D, hD⟩ : ∃ D, fs.heavy.b = D := ⟨_, rfl⟩
          rw [hD] at y0 HA hg hd1 hd2
          have HC := Lib.hid (fun wx => compareC fs.k fs.v x u wx)
          have m1 := methodE fs.k fs.v
          have q1 := nilE fs.k fs.v
          have HX := Lib.hid (And.intro hD (And.intro hfs hbf))
          obtain ⟨big, hbig⟩ : ∃ big, decide (2 ≤ D.natAbs) = big := ⟨_, rfl⟩
          have hg2 : (FloatKind.f64.format.order (dAbs D) 4607182418800017408 == some .gt) = big := by
            rw [show (4607182418800017408 : Nat) = one64 from rfl, hg, hbig]
          have HG := Lib.hid hbig
          clear hg hbig hD hfs hbf hbh hfr HI HU2 hk hlen hVM
          generalize dAbs D = xa at HA hg2
          go_upto_if 180 with (first | (go_at_call 40; with_reducible refine (HA.out _).mono ?_; rintro e w' ⟨rfl, rfl⟩) | fail)
          have HZ : Hid ((∀ h ∈ Z1, h.p ≠ fs.p) ∧ Mine w4.heap.size p0 fs.p) := Lib.hid (by
            have h := (ZM.app.1 (HU3.out wr (Only.refl _ _)).zm).2.1
            exact ⟨h.2.2.2.2.1, h.2.2.2.1⟩)
          go_cut [7, 10] (fun s7 s10 wx => ∃ (s : Nat) (S : Tre) (i : Int), s7 = .pointer (at0 s) ∧ s10 = .int .i64 i ∧ Hid (S.ptr = some s ∧ Rt g dm p0 T w4 wx Z1 (some fs.p) S ∧ Good x u T (plug Z1 S) ∧ Liv wx fs.p))
          case first =>
            have hhb : 2 ≤ D.natAbs ↔ big = true := by rw [← HG.out]; exact decide_eq_true_iff.symm
            cases big with
            | false =>
              have HE2 := Lib.hid (even_ok (fs := fs) (Z2 := Z2) q x u (by
                have h := HP.out.2.1
                rw [HP.out.2.2.2.2.1, plug_split] at h
                exact plug_sub Z1 h) HP.out.2.2.2.2.2.1 (by
                rw [HX.out.1]
                have h : ¬ 2 ≤ D.natAbs := fun e => absurd (hhb.1 e) (by decide)
                omega))
              go_wp2_with fail
              go_meet
              exact ⟨fs.p, _, _, rfl, rfl, Lib.hid ⟨put_ptr fs.heavy _, (HU3.out wr (Only.refl _ _)).rt, end_plain HP.out.2.2.2.2.1 HP.out.1 HP.out.2.1 HP.out.2.2.1 HB5.out.ord HE2.out.1 (HP.out.2.2.2.2.2.2.1.imp HE2.out.2 id) rfl, ⟨_, _, (ZM.app.1 (HU3.out wr (Only.refl _ _)).zm).2.1.1⟩⟩⟩
            | true =>
              cases hd : fs.right with
              | true =>
              have hwy := HP.out.1 fs HX.out.2.1
              rw [hd, if_pos rfl] at hwy
              have hs : sgn fs.k x = -1 := if_pos hwy
              unfold CmpP at HC
              simp only [hs] at HC
              have HNM := Lib.hid normN
              have HBL : Hid (∀ wx, Same wr wx → Calls Try.prog 41 #[.pointer (at0 fs.p), .int .i64 1] wx (BalP g dm p0 T w4 Z1 (some fs.p) (fs.heavy.put (plug (heavies Z2) (.nd q 0 .nil x u .nil))) (fs.put (plug Z2 .nil)).ht)) := Lib.hid (fun wx hx => by
                have h := bal_any (HU3.out wx hx) HB5.out HP.out.2.2.2.2.2.1 (by rw [← HP.out.2.2.2.2.1]; exact HP.out.2.1) (by
                  have h1 := HX.out.1
                  have h2 := of_decide_eq_true HG.out
                  have h3 := HX.out.2.2
                  unfold Fr.heavy at h1
                  rw [hd] at h1 ⊢
                  simp at h1 ⊢
                  omega)
                rw [hd] at h
                exact h)
              clear hs hwy hd
              go_wp2_with (first | (go_at_call 65; refine (HC.out _).mono ?_; go_loud (rintro e wx ⟨rfl, hsc⟩; have HS := Lib.hid hsc; clear hsc)) | (go_at_call 39; refine (HNM.out _).mono ?_; rintro e w' ⟨rfl, rfl⟩) | (go_at_call 41; refine (HBL.out _ HS.out).mono ?_; go_loud (rintro e w9 ⟨s, S, rfl, hs, hR, b1, b2, b3, b4⟩; have HR := Lib.hid (And.intro hs (And.intro hR (And.intro b1 (And.intro b2 (And.intro b3 b4))))); clear hs hR b1 b2 b3 b4)) | fail)
              go_meet
              exact ⟨s, S, _, rfl, rfl, Lib.hid ⟨HR.out.1, HR.out.2.1, end_plain HP.out.2.2.2.2.1 HP.out.1 HP.out.2.1 HP.out.2.2.1 HB5.out.ord HR.out.2.2.1 (.inl HR.out.2.2.2.1) HR.out.2.2.2.2.1, HR.out.2.2.2.2.2 _ rfl⟩⟩
              | false =>
              have hwy := HP.out.1 fs HX.out.2.1
              rw [hd, if_neg (by decide)] at hwy
              have hs : sgn fs.k x = 1 := by unfold sgn; rw [if_neg (by omega), if_pos hwy]
              unfold CmpP at HC
              simp only [hs] at HC
              have HNM := Lib.hid normP
              have HBL : Hid (∀ wx, Same wr wx → Calls Try.prog 41 #[.pointer (at0 fs.p), .int .i64 0] wx (BalP g dm p0 T w4 Z1 (some fs.p) (fs.heavy.put (plug (heavies Z2) (.nd q 0 .nil x u .nil))) (fs.put (plug Z2 .nil)).ht)) := Lib.hid (fun wx hx => by
                have h := bal_any (HU3.out wx hx) HB5.out HP.out.2.2.2.2.2.1 (by rw [← HP.out.2.2.2.2.1]; exact HP.out.2.1) (by
                  have h1 := HX.out.1
                  have h2 := of_decide_eq_true HG.out
                  have h3 := HX.out.2.2
                  unfold Fr.heavy at h1
                  rw [hd] at h1 ⊢
                  simp at h1 ⊢
                  omega)
                rw [hd] at h
                exact h)
              clear hs hwy hd
              go_wp2_with (first | (go_at_call 65; refine (HC.out _).mono ?_; go_loud (rintro e wx ⟨rfl, hsc⟩; have HS := Lib.hid hsc; clear hsc)) | (go_at_call 39; refine (HNM.out _).mono ?_; rintro e w' ⟨rfl, rfl⟩) | (go_at_call 41; refine (HBL.out _ HS.out).mono ?_; go_loud (rintro e w9 ⟨s, S, rfl, hs, hR, b1, b2, b3, b4⟩; have HR := Lib.hid (And.intro hs (And.intro hR (And.intro b1 (And.intro b2 (And.intro b3 b4))))); clear hs hR b1 b2 b3 b4)) | fail)
              go_meet
              exact ⟨s, S, _, rfl, rfl, Lib.hid ⟨HR.out.1, HR.out.2.1, end_plain HP.out.2.2.2.2.1 HP.out.1 HP.out.2.1 HP.out.2.2.1 HB5.out.ord HR.out.2.2.1 (.inl HR.out.2.2.2.1) HR.out.2.2.2.2.1, HR.out.2.2.2.2.2 _ rfl⟩⟩
          case rest =>
            obtain ⟨s, S, i2, rfl, rfl, HR⟩ := hcut
            clear y0 y3 HA hg2 HC m1 q1 HU3 HG hd1 hd2 hNe
            have d2 : wc.cell? ⟨dm, 2, none⟩ = some (.pointer (at0 p0)) := block_cell HR.out.2.1.dy rfl
            have HLV : Hid (∀ h ∈ Z1, Liv wc h.p) := Lib.hid (HR.out.2.1.zm.liv)
            cases Z1 with
            | nil =>
              have hfp : fs.p = p0 := by
                have h1 := HP.out.2.2.2.2.2.2.2 none
                rw [HP.out.2.2.2.2.1, tip_app] at h1
                exact Option.some.inj h1
              have hE := eql_pp HR.out.2.2.2 HR.out.2.2.2
              rw [beq_self_eq_true] at hE
              rw [hfp] at hE ⊢
              have e0 := HR.out.2.1.ob.root
              have fg := HR.out.2.1.ob.fr
              have lg := HR.out.2.1.ob.lt
              clear hfp
              go_wp2_with fail
              go_ret
              exact HR.out.2.1.root HB5.out HR.out.1 HR.out.2.2.1 HP.out.2.2.2.1
            | cons f1 Z1 =>
              obtain ⟨hne, hmn⟩ := HZ.out
              have hm1 : Mine w4.heap.size p0 f1.p := HR.out.2.1.zm.mine f1 (List.mem_cons_self ..)
              have hfp : fs.p ≠ p0 := by
                have h1 := HP.out.2.2.2.2.2.2.2 none
                rw [HP.out.2.2.2.2.1, tip_app] at h1
                obtain ⟨h, hm, he⟩ := @tip_mem Z1 f1 (some fs.p)
                have h2 : tip (f1 :: Z1) (some fs.p) = some p0 := h1
                rw [he] at h2
                exact fun e => hne h hm (by rw [e]; exact Option.some.inj h2)
              have hp0 : Liv wc p0 := by
                have h1 := HP.out.2.2.2.2.2.2.2 none
                rw [HP.out.2.2.2.2.1, tip_app] at h1
                obtain ⟨h, hm, he⟩ := @tip_mem Z1 f1 (some fs.p)
                have h2 : tip (f1 :: Z1) (some fs.p) = some p0 := h1
                rw [he] at h2
                rw [← Option.some.inj h2]
                exact HLV.out h hm
              have hE := eql_pp HR.out.2.2.2 hp0
              rw [show (fs.p == p0) = false by simpa using hfp] at hE
              have htop : ∀ c, tip (f1 :: Z1) c = some p0 := fun c => by
                have h1 := HP.out.2.2.2.2.2.2.2 none
                rw [HP.out.2.2.2.2.1, tip_app] at h1
                exact h1
              have hfr : FrM wc f1 (some fs.p) := HR.out.2.1.zm.1
              have hfl := hfr.liv
              obtain ⟨⟨c1, y1⟩, _, yf, yl⟩ := hfl
              clear hfp hp0
              rw [show hd dm (f1 :: Z1) = f1.p from rfl]
              have HTP := Lib.hid htop
              have HSB : Hid (∀ y, f1.sib.ptr = some y → Liv wc y ∧ y ≠ fs.p) := Lib.hid (fun y hy => by
                obtain ⟨hsi, hol⟩ := (show InM wc f1.sib ∧ Old w4.heap.size p0 g dm f1.sib from ⟨HR.out.2.1.zm.2.1, HR.out.2.1.zm.2.2.1⟩)
                cases hs : f1.sib with
                | nil => rw [hs] at hy; cases hy
                | nd p' b' l' k' v' r' =>
                  rw [hs] at hy hsi hol
                  obtain rfl : p' = y := Option.some.inj hy
                  exact ⟨hsi.1.liv, fun e => not_kept hmn (e ▸ hol p' (.inl rfl))⟩)
              clear htop
              go_upto_region 49 with fail
              refine wp_region_still_tail 13 (by kernel_rfl) (by kernel_rfl) ?_
              simp only [List.take_succ_cons, List.take_zero, List.drop_succ_cons, List.drop_zero]
              repeat still_step
              cases hd : f1.right with
              | true =>
                have y2 : wc.cell? ⟨f1.p, 2, none⟩ = some (.pointer (at0 fs.p)) := by have h := Nd.rc hfr; rw [hd] at h; exact h
                have hE3 : (binOp .eql 76 (.pointer (at0 fs.p)) (.pointer (at0 fs.p))).run Try.prog wc.drew = .ok (.bool true) wc.drew := by
                  have h := eql_pp (w := wc.drew) HR.out.2.2.2 HR.out.2.2.2; rw [beq_self_eq_true] at h; exact h
                have HF : Hid (InsP x u g p0 T w (.returned .nilIface) (wc.drew.setCell ⟨f1.p, 2, none⟩ (.pointer (at0 s)))) := Lib.hid (by
                  have h := HR.out.2.1.hang HB5.out HR.out.1 HR.out.2.2.1 HP.out.2.2.2.1 HTP.out
                  rw [hd] at h
                  exact h.drew)
                clear hfr hd
                repeat still_step
                still_call ((show Calls Try.prog 42 #[.bool true] _ (fun e w' => e = .returned (.int .i64 1) ∧ w' = wc.drew) from (fromB true _).mono (fun e w' h => ⟨h.1, h.2.symm⟩)))
                repeat still_step
                try refine wpStill_nil ?_
                change wpList _ _ _ _ _ wc.drew
                go_wp2_with fail
                go_ret
                exact HF.out
              | false =>
                have y2 : wc.cell? ⟨f1.p, 2, none⟩ = some (.pointer (ad f1.sib.ptr)) := by have h := Nd.rc hfr; rw [hd] at h; exact h
                have hE3 : (binOp .eql 76 (.pointer (ad f1.sib.ptr)) (.pointer (at0 fs.p))).run Try.prog wc.drew = .ok (.bool false) wc.drew := by
                  exact eql_op (w := wc.drew) (fun y hy => HSB.out y hy) HR.out.2.2.2
                have HF : Hid (InsP x u g p0 T w (.returned .nilIface) (wc.drew.setCell ⟨f1.p, 1, none⟩ (.pointer (at0 s)))) := Lib.hid (by
                  have h := HR.out.2.1.hang HB5.out HR.out.1 HR.out.2.2.1 HP.out.2.2.2.1 HTP.out
                  rw [hd] at h
                  exact h.drew)
                clear hfr hd
                repeat still_step
                still_call ((show Calls Try.prog 42 #[.bool false] _ (fun e w' => e = .returned (.int .i64 0) ∧ w' = wc.drew) from (fromB false _).mono (fun e w' h => ⟨h.1, h.2.symm⟩)))
                repeat still_step
                try refine wpStill_nil ?_
                change wpList _ _ _ _ _ wc.drew
                go_wp2_with fail
                go_ret
                exact HF.out
        | cons f V =>
          rw [List.reverse_cons, List.append_assoc] at hVM HI
          rw [show nx q (f :: V) = f.p from rfl]
          have hfm : f ∈ F := by
            have h : f ∈ Z2 ++ [fs] := by rw [← hVM]; simp
            rw [HP.out.2.2.2.2.1]
            rcases List.mem_append.1 h with h | h
            · exact List.mem_append_left _ h
            · exact List.mem_append_right _ (by rw [List.mem_singleton.1 h]; exact List.mem_cons_self ..)
          have hbb : -1 ≤ f.b ∧ f.b ≤ 1 := plug_b F HP.out.2.1 f hfm
          have hwy := HP.out.1 f hfm
          have hb1 := hbb.1
          have hb2 := hbb.2
          have hNe := neq_pp HI.out.frame.liv HI.out.nq.liv
          rw [show (f.p == q) = false by simpa using HI.out.ne f (by simp)] at hNe
          have HC := Lib.hid (fun wx => compareC f.k f.v x u wx)
          have m1 := methodE f.k f.v
          have q1 := nilE f.k f.v
          have hk' : V.length + 1 < gk := hk
          clear hbb hk HU2 hfm
          cases hd : f.right with
          | true =>
            rw [hd, if_pos rfl] at hwy
            have hs : sgn f.k x = -1 := if_pos hwy
            unfold CmpP at HC
            simp only [hs] at HC
            have HNM := Lib.hid normN
            have hhb : f.heavy.b = f.b + 1 := by unfold Fr.heavy; simp [hd]
            have HW2 : Hid (∀ wx, Same wr wx → Nd wx f.p f.b (ad f.sib.ptr) (at0 (nx q V)) f.k f.v) := Lib.hid (fun wx hx => by have h := (HI.out.still hx).frame; rw [hd] at h; exact h)
            have HI2 : Hid (∀ wx, Same wr wx → Up g dm p0 x u T w4 wx (V.reverse ++ f :: (heavies M ++ Z1)) q) := Lib.hid (fun wx hx => HI.out.still hx)
            have e3 := ((HW2.out wr (Only.refl _ _))).en
            have HVM := Lib.hid hVM
            have HHB := Lib.hid hhb
            clear hs hwy HI hd hhb hVM
            go_wp2_with (first | (go_at_call 65; refine (HC.out _).mono ?_; go_loud (rintro e wx ⟨rfl, hsc⟩; have HS := Lib.hid hsc; have y0 := (HW2.out wx hsc).bal; have y1 := (HW2.out wx hsc).lc; have y2 := (HW2.out wx hsc).rc; have yf := (HW2.out wx hsc).fr; have yl := (HW2.out wx hsc).lt; clear hsc)) | (go_at_call 39; refine (HNM.out _).mono ?_; rintro e w' ⟨rfl, rfl⟩) | fail)
            go_roundg (gk - 1)
            case measure => omega
            case rel => exact ⟨V, f :: M, _, HVM.out, by omega, rfl, rfl, Lib.hid (by have h := (HI2.out wx HS.out).setb HB5.out; rw [HHB.out] at h; exact h)⟩
          | false =>
            rw [hd, if_neg (by decide)] at hwy
            have hs : sgn f.k x = 1 := by unfold sgn; rw [if_neg (by omega), if_pos hwy]
            unfold CmpP at HC
            simp only [hs] at HC
            have HNM := Lib.hid normP
            have hhb : f.heavy.b = f.b - 1 := by unfold Fr.heavy; simp [hd]
            have HW2 : Hid (∀ wx, Same wr wx → Nd wx f.p f.b (at0 (nx q V)) (ad f.sib.ptr) f.k f.v) := Lib.hid (fun wx hx => by have h := (HI.out.still hx).frame; rw [hd] at h; exact h)
            have HI2 : Hid (∀ wx, Same wr wx → Up g dm p0 x u T w4 wx (V.reverse ++ f :: (heavies M ++ Z1)) q) := Lib.hid (fun wx hx => HI.out.still hx)
            have e3 := ((HW2.out wr (Only.refl _ _))).en
            have HVM := Lib.hid hVM
            have HHB := Lib.hid hhb
            clear hs hwy HI hd hhb hVM
            go_wp2_with (first | (go_at_call 65; refine (HC.out _).mono ?_; go_loud (rintro e wx ⟨rfl, hsc⟩; have HS := Lib.hid hsc; have y0 := (HW2.out wx hsc).bal; have y1 := (HW2.out wx hsc).lc; have y2 := (HW2.out wx hsc).rc; have yf := (HW2.out wx hsc).fr; have yl := (HW2.out wx hsc).lt; clear hsc)) | (go_at_call 39; refine (HNM.out _).mono ?_; rintro e w' ⟨rfl, rfl⟩) | fail)
            go_roundg (gk - 1)
            case measure => omega
            case rel => exact ⟨V, f :: M, _, HVM.out, by omega, rfl, rfl, Lib.hid (by have h := (HI2.out wx HS.out).setb HB5.out; rw [HHB.out] at h; exact h)⟩
end Go.Proofs.Ytdamanckgmkbiaa.av

/-
  FnXFEnds: the walk.
-/
import Derived.Test.YtkplikpncpcjdaaDoorXfOnes
import Derived.Test.YtkplikpncpcjdaaDoorXfFin
import Derived.Test.YtkplikpncpcjdaaDoorXfSame
import Derived.Test.YtkplikpncpcjdaaDoorXfLaw
import Derived.Test.YtkplikpncpcjdaaDoorXfRun
import Derived.Test.YtkplikpncpcjdaaDoorRead
import Derived.Deep.RegionHeld3
namespace Go.Proofs.YtkplikpncpcjdaaDoor.walkFnXFEnds
open Go.ChangeShapes Go.WideShapes Go.ChangeAt Go.RowKit Go.Proofs.YtkplikpncpcjdaaDoor.base Go.Proofs.YtkplikpncpcjdaaDoor.heap Go.Proofs.YtkplikpncpcjdaaDoor.rows Go.Proofs.YtkplikpncpcjdaaDoor.xf
set_option linter.unusedVariables false

/-- two entries in blocks of their own -/
structure Two (w0 w : World) (p q : Nat) (x y : It) : Prop where
  fst : w.heap[p]? = some (.cells #[.int .u64 (x.1 : Int), .int .i64 x.2] 28 (0, 0))
  snd : w.heap[q]? = some (.cells #[.int .u64 (y.1 : Int), .int .i64 y.2] 28 (0, 0))
  same : Same w0 w
  np : w0.heap.size ≤ p
  nq : w0.heap.size ≤ q
  ne : p ≠ q
theorem Two.drew {w0 w : World} {p q : Nat} {x y : It} (h : Two w0 w p q x y) : Two w0 w.drew p q x y := ⟨h.fst, h.snd, h.same.drew, h.np, h.nq, h.ne⟩
theorem Two.setp {w0 w : World} {p q : Nat} {x y : It} (h : Two w0 w p q x y) (z : It) : Two w0 ((w.setCell ⟨p, 0, none⟩ (.int .u64 (z.1 : Int))).setCell ⟨p, 1, none⟩ (.int .i64 z.2)) p q z y := by
  have ho : Only (fun k => k = p) w ((w.setCell ⟨p, 0, none⟩ (.int .u64 (z.1 : Int))).setCell ⟨p, 1, none⟩ (.int .i64 z.2)) := ((Only.refl (fun k => k = p) w).setCell ⟨p, 0, none⟩ _ (fun _ => rfl)).setCell ⟨p, 1, none⟩ _ (fun _ => rfl)
  have hn := h.np
  exact ⟨setCell_heap (setCell_heap h.fst 0 (.int .u64 (z.1 : Int))) 1 (.int .i64 z.2), ho.obj h.snd (fun e => h.ne e.symm), new_only h.same ho (fun k e => by have e' : k = p := e; omega), h.np, h.nq, h.ne⟩
theorem Two.setq {w0 w : World} {p q : Nat} {x y : It} (h : Two w0 w p q x y) (z : It) : Two w0 ((w.setCell ⟨q, 0, none⟩ (.int .u64 (z.1 : Int))).setCell ⟨q, 1, none⟩ (.int .i64 z.2)) p q x z := by
  have ho : Only (fun k => k = q) w ((w.setCell ⟨q, 0, none⟩ (.int .u64 (z.1 : Int))).setCell ⟨q, 1, none⟩ (.int .i64 z.2)) := ((Only.refl (fun k => k = q) w).setCell ⟨q, 0, none⟩ _ (fun _ => rfl)).setCell ⟨q, 1, none⟩ _ (fun _ => rfl)
  have hn := h.nq
  exact ⟨ho.obj h.fst (fun e => h.ne e), setCell_heap (setCell_heap h.snd 0 (.int .u64 (z.1 : Int))) 1 (.int .i64 z.2), new_only h.same ho (fun k e => by have e' : k = q := e; omega), h.np, h.nq, h.ne⟩
set_option maxRecDepth 100000 in
set_option maxHeartbeats 3200000 in
theorem main (sz : Nat) (hsz : sz < 256) (a : Option Addr) (n cap : Nat) (l0 : List It) (w : World) (h : RS itc 2 w a n cap l0) (hl : ∀ y ∈ l0, y.1 < 2 ^ 64) (hT : Tabs w) :
    Calls Tryd.prog 3 #[.int .u8 (sz : Int), .slice a n cap] w fun e w' => e = .returned (.bool true) ∧ Below w.heap.size w w' := by
  have hbd := h.bound
  have HR := Lib.hid h
  have HL := Lib.hid hl
  have HT := Lib.hid hT
  have HB := Lib.hid (trBits_of sz w hsz)
  clear h hl hT
  by_cases hbig : (2147483647 : Int) < (n : Int)
  · go_enter Tryd.func3, Tryd.ntmps3
    go_wp2_with fail
    go_ret
    exact ⟨rfl, (Only.refl (fun _ => False) w).below (Nat.le_refl _) (fun _ _ h => h)⟩
  · go_enter Tryd.func3, Tryd.ntmps3
    go_wp2_with fail
    refine HB.out.mono ?_
    rintro e w1 ⟨m, hm, rfl, hs1⟩
    have HM := Lib.hid hm
    have HS1 := Lib.hid hs1
    have HK := Lib.hid (trMask_of m w1 hm)
    clear hm hs1 HB
    go_wp2_with fail
    refine HK.out.mono ?_
    rintro e w2 ⟨rfl, hs2⟩
    have HS2 := Lib.hid (HS1.out.trans hs2)
    clear hs2 HK HS1
    have HIT := Lib.hid (trItems_of w2 a n cap m l0 (HR.out.still HS2.out) HM.out HL.out)
    go_wp2_with fail
    refine HIT.out.mono ?_
    rintro e w3 ⟨a3, n3, c3, rfl, hN⟩
    have HS3 := Lib.hid (HS2.out.trans hN.same)
    obtain ⟨l, hl⟩ : ∃ l, cutI m l0 = l := ⟨_, rfl⟩
    have HLM : Hid (∀ y ∈ l, y.1 < 2 ^ m) := Lib.hid (by
      rw [← hl]
      intro y hy
      unfold cutI at hy
      obtain ⟨z, _, rfl⟩ := List.mem_map.1 hy
      exact Nat.mod_lt _ (Nat.two_pow_pos m))
    have HL60 : Hid (l.length ≤ 60) := Lib.hid (by
      rw [← hl]
      unfold cutI
      rw [List.length_map, List.length_take]; omega)
    rw [hl] at hN
    have HN := Lib.hid hN.row.rs
    have hn3 := hN.row.2
    have hb3 := hN.row.bound
    clear hN hl HIT HS2
    by_cases h0 : n3 = 0
    · subst h0
      go_wp2_with fail
      go_ret
      exact ⟨rfl, HS3.out.below (Nat.le_refl _) (fun _ _ h => h)⟩
    · have hq0 : ((n3 : Int) == 0) = false := by simp; omega
      have hq1 : (n3 == 0) = false := by simp; omega
      have hpos : (0 : Int) < (n3 : Int) := by omega
      obtain ⟨x0, r0, hx0⟩ : ∃ x r, l = x :: r := by
        cases l with
        | nil => simp at hn3; omega
        | cons x r => exact ⟨x, r, rfl⟩
      obtain ⟨b, off, ha3, hb, hc⟩ := HN.out.at itc_len (by omega)
      have c0 : w3.cell? ⟨b, off, none⟩ = some (.int .u64 (x0.1 : Int)) := by
        have := hc 0 x0 (by rw [hx0]; rfl) 0 _ rfl
        simpa using this
      have c1 : w3.cell? ⟨b, off + 1, none⟩ = some (.int .i64 x0.2) := by
        have := hc 0 x0 (by rw [hx0]; rfl) 1 _ rfl
        simpa using this
      have HX0 := Lib.hid hx0
      subst ha3
      clear hc hx0
      go_upto_region 7 with fail
      go_cut [7, 8] (fun u v wx => ∃ p q, u = pb p ∧ v = pb q ∧ Hid (Two w3 wx p q x0 x0))
      case first =>
        go_region
        all_goals
          go_wp2_with fail
          go_meet
          first
          | exact ⟨_, _, rfl, rfl, Lib.hid ⟨((Only.refl (fun _ => False) _).alloc _).drew.obj (heap_alloc_new _ _) id, heap_alloc_new' _ _ _ (by simp), (((Only.refl _ _).alloc _).alloc _).drew, Nat.le_refl _, by omega, by omega⟩⟩
          | exact ⟨_, _, rfl, rfl, Lib.hid ⟨heap_alloc_new' _ _ _ (by simp), ((Only.refl (fun _ => False) _).alloc _).drew.obj (heap_alloc_new _ _) id, (((Only.refl _ _).alloc _).alloc _).drew, by omega, Nat.le_refl _, by omega⟩⟩
      case rest =>
      obtain ⟨p, q, rfl, rfl, HT1⟩ := hcut
      have HT0 : Hid (Two w3 wc p q (least x0 (r0.take 0)) (most x0 (r0.take 0))) := HT1
      clear c0 c1 HT1
      go_wp2_with fail
      go_loopw [9] (fun i wr => ∃ j : Nat, i = .int .i64 ((j + 1 : Nat) : Int) ∧ j + 1 ≤ n3 ∧ Hid (Two w3 wr p q (least x0 (r0.take j)) (most x0 (r0.take j)))) (fun i _ => n3 - (intOf i).toNat)
      case atStart => exact ⟨0, rfl, by omega, HT0⟩
      case round =>
        clear HT0
        obtain ⟨j, rfl, hj, HTW⟩ := hrel
        by_cases hlt : j + 1 < n3
        · have hlt' : ((j + 1 : Nat) : Int) < (n3 : Int) := by omega
          obtain ⟨y, hy⟩ := HN.out.get hlt
          obtain ⟨b', off', ha, hb', hc⟩ := (HN.out.still HTW.out.same).at itc_len (by omega)
          obtain ⟨rfl, rfl⟩ : b = b' ∧ off = off' := by cases ha; exact ⟨rfl, rfl⟩
          have c0 : wr.cell? ⟨b, off + (j + 1) * 2, none⟩ = some (.int .u64 (y.1 : Int)) := hc (j + 1) y hy 0 _ rfl
          have c1 : wr.cell? ⟨b, off + (j + 1) * 2 + 1, none⟩ = some (.int .i64 y.2) := hc (j + 1) y hy 1 _ rfl
          have hyr : r0[j]? = some y := by rw [HX0.out] at hy; simpa using hy
          have HY := Lib.hid hyr
          obtain ⟨lx, hlx⟩ : ∃ lx, least x0 (r0.take j) = lx := ⟨_, rfl⟩
          obtain ⟨mx, hmx⟩ : ∃ mx, most x0 (r0.take j) = mx := ⟨_, rfl⟩
          rw [hlx, hmx] at HTW
          have p0 : wr.cell? ⟨p, 0, none⟩ = some (.int .u64 (lx.1 : Int)) := block_cell HTW.out.fst rfl
          have p1 : wr.cell? ⟨p, 1, none⟩ = some (.int .i64 lx.2) := block_cell HTW.out.fst rfl
          have pf : ∀ i, wr.frozen? ⟨p, i, none⟩ = false := fun i => block_free HTW.out.fst
          have q0 : wr.cell? ⟨q, 0, none⟩ = some (.int .u64 (mx.1 : Int)) := block_cell HTW.out.snd rfl
          have q1 : wr.cell? ⟨q, 1, none⟩ = some (.int .i64 mx.2) := block_cell HTW.out.snd rfl
          have qf : ∀ i, wr.frozen? ⟨q, i, none⟩ = false := fun i => block_free HTW.out.snd
          have lp := lt_of_heap HTW.out.fst
          have lq := lt_of_heap HTW.out.snd
          have HNX : Hid (least x0 (r0.take (j + 1)) = lo lx y ∧ most x0 (r0.take (j + 1)) = hi mx y) := Lib.hid (by
            rw [take_snoc r0 j y hyr, least_snoc, most_snoc, hlx, hmx]; exact ⟨rfl, rfl⟩)
          have hne := HTW.out.ne
          have hne2 := HTW.out.ne.symm
          have hbp : b ≠ p := fun e => by have := HTW.out.np; omega
          have hbq : b ≠ q := fun e => by have := HTW.out.nq; omega
          clear hc ha hy hyr hlx hmx
          go_wp2_with fail
          rcases (Decidable.em ((y.1 : Int) ≤ (lx.1 : Int))) with g1 | g1 <;> rcases (Decidable.em ((mx.1 : Int) ≤ (y.1 : Int))) with g2 | g2
          · go_region
            all_goals
              go_wp2_with fail
              go_region
              all_goals
                go_wp2_with fail
                exact ⟨⟨j + 1, by go_num, by omega, Lib.hid (by rw [HNX.out.1, HNX.out.2, lo, hi, if_pos (by omega), if_pos (by omega)]; exact ((HTW.out.drew.setp y).drew.setq y))⟩, by simp [intOf]; omega⟩
          · go_region
            all_goals
              go_wp2_with fail
              go_region
              all_goals
                go_wp2_with fail
                exact ⟨⟨j + 1, by go_num, by omega, Lib.hid (by rw [HNX.out.1, HNX.out.2, lo, hi, if_pos (by omega), if_neg (by omega)]; exact ((HTW.out.drew.setp y).drew))⟩, by simp [intOf]; omega⟩
          · go_region
            all_goals
              go_wp2_with fail
              go_region
              all_goals
                go_wp2_with fail
                exact ⟨⟨j + 1, by go_num, by omega, Lib.hid (by rw [HNX.out.1, HNX.out.2, lo, hi, if_neg (by omega), if_pos (by omega)]; exact ((HTW.out.drew).drew.setq y))⟩, by simp [intOf]; omega⟩
          · go_region
            all_goals
              go_wp2_with fail
              go_region
              all_goals
                go_wp2_with fail
                exact ⟨⟨j + 1, by go_num, by omega, Lib.hid (by rw [HNX.out.1, HNX.out.2, lo, hi, if_neg (by omega), if_neg (by omega)]; exact ((HTW.out.drew).drew))⟩, by simp [intOf]; omega⟩
        · have hlt' : ¬ ((j + 1 : Nat) : Int) < (n3 : Int) := by omega
          have hjr : r0.length ≤ j := by
            have := hn3
            rw [HX0.out] at this
            simp at this
            omega
          rw [List.take_of_length_le hjr] at HTW
          have h60 : n3 ≤ 60 := by have := HL60.out; omega
          have HON := Lib.hid (trOnes_of wr (some ⟨b, off, none⟩) n3 c3 l (HN.out.still HTW.out.same) h60)
          clear hjr
          go_wp2_with fail
          refine HON.out.mono ?_
          rintro e w5 ⟨a5, c5, S, rfl, hO5⟩
          have HO5 := Lib.hid hO5
          have HSP : Hid (∀ s ∈ S, s.op = 1) := Lib.hid (fun s hs => by
            obtain ⟨i, hi⟩ := List.getElem?_of_mem hs
            exact (hO5.stp i s hi).1)
          have hb5 := hO5.row.row.bound
          clear hO5 HON
          go_wp2_with (at_builtin; refine wpList_append (n3 + 2) (S.flatMap stc ++ (stc (askS 6 w5.heap.size) ++ stc (askS 7 (w5.heap.size + 1)))) rfl _ _ _ _ rfl slSt rfl (HO5.out.row.row.1.keep (S := fun _ => False) (by repeat (first | exact Only.refl _ _ | apply Only.alloc | apply Only.drew)) (fun _ _ => id)) rfl (Src.row (size := 3) (cs := #[.int .i64 6, .slice none 0 0, .slice (some ⟨w5.heap.size, 0, none⟩) 1 1, .int .i64 7, .slice none 0 0, .slice (some ⟨w5.heap.size + 1, 0, none⟩) 1 1]) (t := 36) (fr := (0, 0)) Tryd.underlying32 (by exact heap_alloc_new' _ _ _ (by simp)) 2 2 rfl (by simp [Value.oneCell'])) rfl rfl (by unfold maxLen; omega) (by omega) ?_)
          intro a8 c8 w8 hG
          have HF := Lib.hid (HO5.out.fin HLM.out hG)
          have HRUN := Lib.hid (xfRun m HM.out a8 (n3 + 2) c8 _ w8 HF.out.1 (by omega) HF.out.2.1 (HT.out.still ((HS3.out.trans HTW.out.same).trans HF.out.2.2)))
          clear hG
          go_wp2_with fail
          refine HRUN.out.mono ?_
          rintro e w9 ⟨oa, oc, As, rfl, hr9, hin9, hran, hs9⟩
          have HS9 := Lib.hid (HF.out.2.2.trans hs9)
          have hbo := hr9.bound
          obtain ⟨b9, off9, rfl, hb9, hc9⟩ := hr9.at anc_len (by omega)
          obtain ⟨y, z, hy, hz, hyL, hzL⟩ := ends_said (HO5.out.row.row.2.trans hn3.symm) (fun i s hi => by
            obtain ⟨g1, g2, _⟩ := HO5.out.stp i s hi
            exact ⟨g1, g2⟩) HX0.out hran
          rw [hn3] at hy hz
          have ylen := (hin9 y (List.mem_of_getElem? hy)).2
          have zlen := (hin9 z (List.mem_of_getElem? hz)).2
          rw [hyL] at ylen
          rw [hzL] at zlen
          have HYI : Hid (RS itc 2 w9 y.a 1 y.cap [least x0 r0]) := Lib.hid (by have := hin9 y (List.mem_of_getElem? hy); unfold AnIn at this; rwa [hyL, ← ylen] at this)
          have HZI : Hid (RS itc 2 w9 z.a 1 z.cap [most x0 r0]) := Lib.hid (by have := hin9 z (List.mem_of_getElem? hz); unfold AnIn at this; rwa [hzL, ← zlen] at this)
          have d0 : w9.cell? ⟨b9, off9 + n3 * 3, none⟩ = some (.slice y.a 1 y.cap) := by
            have := hc9 n3 y hy 0 _ rfl
            rw [← ylen] at this
            exact this
          have d1 : w9.cell? ⟨b9, off9 + n3 * 3 + 3, none⟩ = some (.slice z.a 1 z.cap) := by
            have := hc9 (n3 + 1) z hz 0 _ rfl
            rw [← zlen, Nat.add_mul] at this
            exact this
          obtain ⟨lx, hlx⟩ : ∃ lx, least x0 r0 = lx := ⟨_, rfl⟩
          obtain ⟨mx, hmx⟩ : ∃ mx, most x0 r0 = mx := ⟨_, rfl⟩
          rw [hlx] at HYI HTW
          rw [hmx] at HZI HTW
          have HD := Lib.hid (And.intro hb9 (And.intro d0 d1))
          obtain ⟨ya, hya⟩ : ∃ a, y.a = a := ⟨_, rfl⟩
          obtain ⟨yc, hyc⟩ : ∃ a, y.cap = a := ⟨_, rfl⟩
          obtain ⟨za, hza⟩ : ∃ a, z.a = a := ⟨_, rfl⟩
          obtain ⟨zc, hzc⟩ : ∃ a, z.cap = a := ⟨_, rfl⟩
          rw [hya, hyc] at HYI HD
          rw [hza, hzc] at HZI HD
          have HTL := Lib.hid (trTail_of w9 b9 off9 (n3 + 2) oc (by omega) hbo.1 hbo.2 (by omega))
          rw [Nat.add_sub_cancel] at HTL
          clear hr9 hin9 hran hs9 hy hz hyL hzL ylen zlen d0 d1 hc9 hlx hmx hya hyc hza hzc HRUN HF HO5 HSP HX0 HL60 HLM HT HM HR HL
          go_wp2_with fail
          refine HTL.out.mono ?_
          rintro e w10 ⟨rfl, hs10⟩
          have HK : Hid (∀ wx, Same w10 wx → (wx.cell? ⟨p, 0, none⟩ = some (.int .u64 (lx.1 : Int)) ∧ wx.cell? ⟨p, 1, none⟩ = some (.int .i64 lx.2)) ∧ (wx.cell? ⟨q, 0, none⟩ = some (.int .u64 (mx.1 : Int)) ∧ wx.cell? ⟨q, 1, none⟩ = some (.int .i64 mx.2)) ∧ wx.cell? ⟨b9, off9 + n3 * 3, none⟩ = some (.slice ya 1 yc) ∧ wx.cell? ⟨b9, off9 + n3 * 3 + 3, none⟩ = some (.slice za 1 zc)) := Lib.hid (fun wx hx => by
            have h1 := (HS9.out.trans hs10).trans hx
            have h2 := hs10.trans hx
            have f1 := h1.obj HTW.out.fst id
            have f2 := h1.obj HTW.out.snd id
            exact ⟨⟨block_cell f1 rfl, block_cell f1 rfl⟩, ⟨block_cell f2 rfl, block_cell f2 rfl⟩, (h2.cell (p := ⟨b9, off9 + n3 * 3, none⟩) HD.out.1 id).trans HD.out.2.1, (h2.cell (p := ⟨b9, off9 + n3 * 3 + 3, none⟩) HD.out.1 id).trans HD.out.2.2⟩)
          have H1 : Hid (∀ wx K, Same w10 wx → wx.heap[K]? = some (.cells #[.int .u64 (lx.1 : Int), .int .i64 lx.2] 28 (0, 0)) → Calls Tryd.prog 11 #[.slice ya 1 yc, .slice (some ⟨K, 0, none⟩) 1 1] wx fun e w' => e = .returned (.bool true) ∧ Same w10 w') := Lib.hid (fun wx K hx hK => by
            have hO : RS itc 2 wx (some ⟨K, 0, none⟩) 1 1 [lx] := ⟨(Own.of_block (size := 2) hK 1 1 (Nat.le_refl _) (by unfold maxLen; omega) rfl (fun u hu => itc_one lx u hu)).rd, rfl⟩
            exact (sameItems wx ya (some ⟨K, 0, none⟩) 1 yc 1 [lx] ((HYI.out.still hs10).still hx) hO).mono (fun e w' h => ⟨h.1, hx.trans h.2⟩))
          have H2 : Hid (∀ wx K, Same w10 wx → wx.heap[K]? = some (.cells #[.int .u64 (mx.1 : Int), .int .i64 mx.2] 28 (0, 0)) → Calls Tryd.prog 11 #[.slice za 1 zc, .slice (some ⟨K, 0, none⟩) 1 1] wx fun e w' => e = .returned (.bool true) ∧ Same w10 w') := Lib.hid (fun wx K hx hK => by
            have hO : RS itc 2 wx (some ⟨K, 0, none⟩) 1 1 [mx] := ⟨(Own.of_block (size := 2) hK 1 1 (Nat.le_refl _) (by unfold maxLen; omega) rfl (fun u hu => itc_one mx u hu)).rd, rfl⟩
            exact (sameItems wx za (some ⟨K, 0, none⟩) 1 zc 1 [mx] ((HZI.out.still hs10).still hx) hO).mono (fun e w' h => ⟨h.1, hx.trans h.2⟩))
          have H1a : Hid (∀ wx, Same w10 wx → Calls Tryd.prog 11 #[.slice ya 1 yc, .slice (some ⟨wx.heap.size, 0, none⟩) 1 1] (wx.alloc (.cells #[.int .u64 (lx.1 : Int), .int .i64 lx.2] 28)).drew fun e w' => e = .returned (.bool true) ∧ Same w10 w') := Lib.hid (fun wx hx => H1.out _ _ (hx.alloc _).drew (heap_alloc_new wx _))
          have H1b : Hid (∀ wx, Same w10 wx → Calls Tryd.prog 11 #[.slice ya 1 yc, .slice (some ⟨wx.heap.size, 0, none⟩) 1 1] (wx.alloc (.cells #[.int .u64 (lx.1 : Int), .int .i64 lx.2] 28)) fun e w' => e = .returned (.bool true) ∧ Same w10 w') := Lib.hid (fun wx hx => H1.out _ _ (hx.alloc _) (heap_alloc_new wx _))
          have H2a : Hid (∀ wx, Same w10 wx → Calls Tryd.prog 11 #[.slice za 1 zc, .slice (some ⟨wx.heap.size, 0, none⟩) 1 1] (wx.alloc (.cells #[.int .u64 (mx.1 : Int), .int .i64 mx.2] 28)).drew fun e w' => e = .returned (.bool true) ∧ Same w10 w') := Lib.hid (fun wx hx => H2.out _ _ (hx.alloc _).drew (heap_alloc_new wx _))
          have H2b : Hid (∀ wx, Same w10 wx → Calls Tryd.prog 11 #[.slice za 1 zc, .slice (some ⟨wx.heap.size, 0, none⟩) 1 1] (wx.alloc (.cells #[.int .u64 (mx.1 : Int), .int .i64 mx.2] 28)) fun e w' => e = .returned (.bool true) ∧ Same w10 w') := Lib.hid (fun wx hx => H2.out _ _ (hx.alloc _) (heap_alloc_new wx _))
          have HW10 : Hid (Same w w10) := Lib.hid (((HS3.out.trans HTW.out.same).trans HS9.out).trans hs10)
          have HLT : Hid (∀ wx, Same w10 wx → p < wx.heap.size ∧ q < wx.heap.size ∧ b9 < wx.heap.size) := Lib.hid (fun wx hx => by
            have h1 := (HS9.out.trans hs10).trans hx
            exact ⟨lt_of_heap (h1.obj HTW.out.fst id), lt_of_heap (h1.obj HTW.out.snd id), Nat.lt_of_lt_of_le HD.out.1 (hs10.trans hx).size⟩)
          obtain ⟨⟨p0, p1⟩, ⟨q0, q1⟩, d0, d1⟩ := HK.out w10 (Only.refl _ _)
          obtain ⟨lp, lq, lb9⟩ := HLT.out w10 (Only.refl _ _)
          clear hs10 HTL HD HYI HZI HTW HS3
          clear HN hbd hbig hb3 h0 hq0 hq1 hpos hb HS9 hbo hj hlt' h60 hb5 hlt hb9
          go_wp2_with fail
          go_region_held3 (fun wx => (wx.cell? ⟨p, 0, none⟩ = some (.int .u64 (lx.1 : Int)) ∧ wx.cell? ⟨p, 1, none⟩ = some (.int .i64 lx.2)) ∧ (wx.cell? ⟨q, 0, none⟩ = some (.int .u64 (mx.1 : Int)) ∧ wx.cell? ⟨q, 1, none⟩ = some (.int .i64 mx.2)) ∧ wx.cell? ⟨b9, off9 + n3 * 3, none⟩ = some (.slice ya 1 yc) ∧ wx.cell? ⟨b9, off9 + n3 * 3 + 3, none⟩ = some (.slice za 1 zc))
            (first | exact HK.out _ (by repeat (first | assumption | exact Only.refl _ _ | apply Only.drew | apply Only.alloc)) | fail)
            (first
              | ((go_at_call 11; (with_reducible refine (H1a.out _ (by first | exact Only.refl _ _ | assumption)).mono ?_); rintro e wy ⟨rfl, hswy⟩))
              | ((go_at_call 11; (with_reducible refine (H1b.out _ (by first | exact Only.refl _ _ | assumption)).mono ?_); rintro e wy ⟨rfl, hswy⟩))
              | ((go_at_call 11; (with_reducible refine (H2a.out _ (by first | exact Only.refl _ _ | assumption)).mono ?_); rintro e wz ⟨rfl, hswz⟩))
              | ((go_at_call 11; (with_reducible refine (H2b.out _ (by first | exact Only.refl _ _ | assumption)).mono ?_); rintro e wz ⟨rfl, hswz⟩))
              | fail)
          all_goals
            go_wp2_with fail
            go_ret
            exact ⟨rfl, (HW10.out.trans hswz).below (Nat.le_refl _) (fun _ _ h => h)⟩
theorem read_items {W : World} {v : Value} (h : Reads Tryd.prog W 22 v) : ∃ (a : Option Addr) (n cap : Nat) (l : List It), v = .slice a n cap ∧ RS itc 2 W a n cap l ∧ ∀ y ∈ l, y.1 < 2 ^ 64 := by
  obtain ⟨a, n, cap, l, rfl, h, hs⟩ := T.slice (c := itc) (K := 2) (fun y : It => y.1 < 2 ^ 64) itc_len itc_one (by omega) Tryd.underlying22 (by kernel_rfl) (fun cs hl ht => by
    match cs, hl with
    | [v0, v1], _ =>
      have h0 := ht.field Tryd.underlying28 0 _ rfl
      have h1 := ht.field Tryd.underlying28 1 _ rfl
      obtain ⟨k0, rfl, hk⟩ := T.int (v := v0) h0 Tryd.underlying25
      obtain ⟨k1, rfl, _⟩ := T.int (v := v1) h1 Tryd.underlying3
      have hk' := wf_u64 hk
      obtain ⟨K, rfl⟩ := Int.eq_ofNat_of_zero_le hk'.1
      exact ⟨(K, k1), rfl, by have := hk'.2; show K < 2 ^ 64; omega⟩) (reads_t h Tryd.underlying22)
  exact ⟨a, n, cap, l, rfl, h, hs⟩
theorem walk (W : World) (v0 v1 : Value) (r0 : Reads Tryd.prog W 5 v0) (r1 : Reads Tryd.prog W 22 v1) (hT : Tabs W) :
    Calls Tryd.prog 3 #[v0, v1] W fun e w' => e = .returned (.bool true) ∧ Below W.heap.size W w' := by
  obtain ⟨q, rfl, hq⟩ := r0.int Tryd.underlying5
  have hq' := wf_u8 hq
  obtain ⟨Q, rfl⟩ := Int.eq_ofNat_of_zero_le hq'.1
  obtain ⟨a, n, cap, l, rfl, h, hl⟩ := read_items r1
  exact main Q (by omega) a n cap l W h hl hT
end Go.Proofs.YtkplikpncpcjdaaDoor.walkFnXFEnds

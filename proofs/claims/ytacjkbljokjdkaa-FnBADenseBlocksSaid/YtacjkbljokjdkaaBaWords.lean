/-
  laws.baWords.
-/
import Derived.Test.YtacjkbljokjdkaaBaBlkD
import Derived.Test.YtacjkbljokjdkaaBaAnswers
import Derived.Test.YtacjkbljokjdkaaBaMade
import Derived.Test.YtacjkbljokjdkaaBaSame
import Derived.Test.YtacjkbljokjdkaaBaPlainG
import Derived.Deep.RegionHeld3
import Derived.Deep.RegionLaw
namespace Go.Proofs.Ytacjkbljokjdkaa.ba
open Go.RowKit Go.Proofs.Ytacjkbljokjdkaa.base Go.Proofs.Ytacjkbljokjdkaa.heap Go.Proofs.Ytacjkbljokjdkaa.rows Go.Proofs.Ytacjkbljokjdkaa.bit Go.Proofs.Ytacjkbljokjdkaa.bs
set_option linter.unusedVariables false
theorem asAt {As : List An3} {Y Z : List Ans} {k t : Nat} {z : Ans} (h : As.map (·.an) = Y ++ Z) (hk : Y.length = k) (hz : Z[t]? = some z) : ∃ x, As[k + t]? = some x ∧ x.an = z := by
  have h1 : (As.map (·.an))[k + t]? = some z := by
    rw [h, List.getElem?_append_right (by omega), hk]
    simpa using hz
  rw [List.getElem?_map] at h1
  cases hx : As[k + t]? with
  | none => rw [hx] at h1; cases h1
  | some x => rw [hx] at h1; exact ⟨x, rfl, by simpa using h1⟩
theorem ltCell {w : World} {p : Addr} {v : Value} (h : w.cell? p = some v) : p.block < w.heap.size := World.block_lt_of_cell? w _ h
def MadeW (x : Bool) (s on : Nat) (a : Option Addr) (n c : Nat) (l L : List Nat) (m q : Nat) : Prop := ∀ wx, RL uv wx a n c l → Calls Try.prog 19 #[.bool x, .int .u16 (s : Int), .slice a n c, .int .i64 (on : Int)] wx (MadeQ x m q on L wx)
def wordsT : List Stp := [{ op := 17 }, { op := 10 }]
def wordsY (S : List Nat) : List Ans := [{ nums := blS S }, { n := S.length }]
theorem nzP_len (f : Nat → Nat) (j0 : Nat) : ∀ d, (nzP f j0 d).length ≤ d
  | 0 => Nat.le_refl _
  | d + 1 => by
    have ih := nzP_len f j0 d
    unfold nzP
    split
    · omega
    · rw [List.length_append]; simp; omega
set_option maxRecDepth 100000 in
set_option maxHeartbeats 3200000 in
theorem baWordsG (x : Bool) (s1 : Nat) (a : Option Addr) (n ca : Nat) (l1 L1 : List Nat) (m1 q1 : Nat) (w : World) (h1 : RL uv w a n ca l1) (hn0 : 0 < n) (M1 : MadeW x s1 0 a n ca l1 L1 m1 q1) (hL1 : L1.length ≤ 40) (hasc : Asc (madeS x q1 L1)) (h60 : ∀ k ∈ madeS x q1 L1, k < 2 ^ 60) (hne : madeS x q1 L1 ≠ []) (hb : ∀ k ∈ madeS x q1 L1, k < 64000000)
    (R : ∃ Y, Y.length = L1.length + 1 ∧ Runs [] (madeT x m1 q1 0 L1 ++ wordsT) (Y ++ wordsY (madeS x q1 L1))) :
    Calls Try.prog 9 #[.bool x, .int .u16 (s1 : Int), .slice a n ca] w (FV w (.bool true)) := by
  have HM1 : Hid (∀ wx, Same w wx → Calls Try.prog 19 #[.bool x, .int .u16 (s1 : Int), .slice a n ca, .int .i64 0] wx (MadeQ x m1 q1 0 L1 wx)) := Lib.hid (fun wx hS => M1 wx (h1.still hS))
  have hbd := h1.bound
  have hn0' : ((n : Int) == 0) = false := by rw [beq_eq_false_iff_ne]; omega
  have HRR := Lib.hid R
  obtain ⟨A, hA⟩ : ∃ A, madeS x q1 L1 = A := ⟨_, rfl⟩
  have hA1 : A.length ≤ 40 := by have := madeS_len x q1 L1; rw [hA] at this; omega
  rw [hA] at hasc h60 hne hb HRR
  have HP := Lib.hid (And.intro hasc (And.intro h60 (And.intro hne hb)))
  have HA := Lib.hid hA
  clear h1 M1 R hasc h60 hne hb hA
  go_enter Try.func9, Try.ntmps9
  go_wp2_with (go_at_call 19; refine (HM1.out _ ?_).mono ?_)
  · exact Only.refl _ _
  rintro e w1 ⟨ta, tc, sa, sc, rfl, hT, hS, hs1', hf1⟩
  rw [HA.out] at hS ⊢
  have HA1 : Hid (OS 27 stc 6 w1 ta (L1.length + 1) tc (madeT x m1 q1 0 L1) ∧ OU w1 sa A.length sc A ∧ Same w w1 ∧ ∀ i, At ta i → w.heap.size ≤ i ∧ ¬ At sa i) := Lib.hid ⟨hT, hS, hs1', fun i hi => ⟨((hf1 i).1 hi).1, ((hf1 i).1 hi).2⟩⟩
  obtain ⟨j1, HJ1⟩ : ∃ j1, Hid (A.length = j1) := ⟨_, Lib.hid rfl⟩
  rw [HJ1.out] at HA1 hA1 ⊢
  obtain ⟨n1, hn1⟩ : ∃ n1, L1.length + 1 = n1 := ⟨_, rfl⟩
  obtain ⟨Y, hY, hruns⟩ := HRR.out
  rw [hn1] at HA1 hY
  rw [hn1]
  have hn12 : n1 ≤ 41 ∧ 1 ≤ n1 := by omega
  obtain ⟨N, HN⟩ : ∃ N, Hid (n1 + 2 = N) := ⟨_, Lib.hid rfl⟩
  have hN2 : N ≤ 100 := by have := HN.out; omega
  have hN3 : ((N : Int) == 0) = false := by have := HN.out; rw [beq_eq_false_iff_ne]; omega
  have hN4 : 1 ≤ N := by have := HN.out; omega
  have HRU := Lib.hid hruns
  have HY := Lib.hid hY
  clear hruns hY HRR hT hS hs1' hf1 HM1 hn1 hL1
  go_wp2_with (at_builtin; refine wpList_append N ((madeT x m1 q1 0 L1).flatMap stc ++ wordsT.flatMap stc) rfl _ _ _ _ rfl slStp rfl (HA1.out.1.1.keep (S := fun _ => False) (by repeat (first | exact Only.refl _ _ | apply Only.alloc | apply Only.drew)) (fun _ _ => id)) rfl (Src.row (size := 6) (cs := (wordsT.flatMap stc).toArray) (t := 27) (fr := (0, 0)) Try.underlying41 (by exact heap_alloc_new' _ _ _ (by rw [World.size_alloc])) 2 2 rfl (by intro u hu; exact flat_one stc_one _ u (by simpa using hu))) HN.out (by simp) (by unfold maxLen; omega) (by omega) ?_)
  intro ty tyc w5 hG5
  obtain ⟨g, hg⟩ : ∃ g, w1.heap.size = g := ⟨_, rfl⟩
  have hO5 : Only (At ta) w1 w5 := (((Only.refl (At ta) w1).alloc _).alloc _).trans hG5.only (fun _ _ h => h)
  have HW5 : Hid (Same w w5 ∧ w5.heap[w1.heap.size]? = some (.cells #[.bool x, .int .u64 (q1 : Int), .slice sa j1 sc] 29 (0, 0)) ∧ RS stc 6 w5 ty N tyc (madeT x m1 q1 0 L1 ++ wordsT) ∧ OU w5 sa j1 sc A) := Lib.hid
    ⟨new_only HA1.out.2.2.1 hO5 (fun i hi => (HA1.out.2.2.2 i hi).1), hG5.only.obj (((Only.refl (fun _ => False) (w1.alloc _)).alloc _).obj (heap_alloc_new w1 _) id) (fun h => by have := HA1.out.1.1.lt _ h; omega),
      ⟨by rw [List.flatMap_append]; exact hG5.own.rd, by rw [List.length_append, HA1.out.1.2]; exact HN.out⟩, ⟨HA1.out.2.1.1.keep hO5 (fun i hi h => (HA1.out.2.2.2 i h).2 hi), HA1.out.2.1.2⟩⟩
  have HANS := Lib.hid (baAnswers ty N tyc _ _ w5 HW5.out.2.2.1 (by omega) HRU.out)
  have HYL : Hid ((Y ++ wordsY A).length = N ∧ Y.length = n1) := Lib.hid (by rw [List.length_append, HY.out]; exact ⟨by simp only [wordsY, List.length_cons, List.length_nil]; have := HN.out; omega, rfl⟩)
  rw [hg] at HW5 ⊢
  clear hG5 hO5 HRU HY HA1 hg
  go_wp2_with (go_at_call 14; refine HANS.out.mono ?_)
  rintro e w6 ⟨oa, oc, As, rfl, hRS, hAs, hIts, hoa, hS6⟩
  have HR6 := Lib.hid (And.intro hRS (And.intro hAs (And.intro hIts hS6)))
  rw [HYL.out.1] at HR6 ⊢
  have HS06 : Hid (Same w w6 ∧ w6.heap[g]? = some (.cells #[.bool x, .int .u64 (q1 : Int), .slice sa j1 sc] 29 (0, 0)) ∧ OU w6 sa j1 sc A) := Lib.hid ⟨Same.trans HW5.out.1 hS6, hS6.obj HW5.out.2.1 id, HW5.out.2.2.2.still hS6⟩
  obtain ⟨ob, oo, hoa', hob, hcl⟩ := HR6.out.1.at anc_len (by have := HN.out; omega)
  obtain ⟨x0, hx0, hy0⟩ := asAt HR6.out.2.1 HYL.out.2 (t := 0) rfl
  obtain ⟨x1, hx1, hy1⟩ := asAt HR6.out.2.1 HYL.out.2 (t := 1) rfl
  have k0 := hcl _ x0 hx0 2 _ rfl
  have k1 := hcl _ x1 hx1 1 _ rfl
  obtain ⟨f, hf⟩ : ∃ f, wd (bkP A) = f := ⟨_, rfl⟩
  obtain ⟨j0, hj0⟩ : ∃ j, loS A / 64 = j := ⟨_, rfl⟩
  obtain ⟨nb, hnb⟩ : ∃ j, hiS A / 64 + 1 - j0 = j := ⟨_, rfl⟩
  obtain ⟨gl, HGL⟩ : ∃ gl, Hid (2 * nb = gl) := ⟨_, Lib.hid rfl⟩
  have HBL : Hid (blS A = BLf f j0 nb) := Lib.hid (by unfold blS; rw [hf, hj0, hnb])
  have HNZ : Hid (nzP f j0 nb = bkP A) := Lib.hid (by rw [← nz_bk HP.out.1 HP.out.2.1 HP.out.2.2.1, hf, hj0, hnb])
  have hj0b : j0 ≤ 1000000 := by have := HP.out.2.2.2 _ (lo_mem HP.out.2.2.1); omega
  have hnbb : nb ≤ 1000001 := by have := HP.out.2.2.2 _ (hi_mem HP.out.2.2.1); omega
  have HF64 : Hid (∀ j, Lt64 (f j)) := Lib.hid (fun j => by rw [← hf]; exact pairs_lt (bk_all HP.out.1 HP.out.2.1).1 j)
  have hL0 : x0.an.nums.length = gl := by rw [hy0]; show (blS A).length = gl; rw [HBL.out, BLf_len]; exact HGL.out
  have hgl : gl ≤ 2000002 := by have := HGL.out; omega
  have HGOT : Hid (OU w6 x0.na gl x0.nc (BLf f j0 nb)) := Lib.hid (by
    have h1 := (HR6.out.2.2.1 x0 (List.mem_of_getElem? hx0)).1
    rw [hL0, hy0] at h1
    have e1 : (({ nums := blS A } : Ans).nums) = BLf f j0 nb := HBL.out
    rw [e1] at h1
    exact ⟨h1, by rw [BLf_len]; exact HGL.out⟩)
  rw [hL0] at k0
  rw [hy1] at k1
  obtain ⟨na, hna⟩ : ∃ na, x0.na = na := ⟨_, rfl⟩
  obtain ⟨nc, hnc⟩ : ∃ nc, x0.nc = nc := ⟨_, rfl⟩
  rw [hna, hnc] at k0 HGOT
  have k0' : w6.cell? ⟨ob, oo + n1 * 4 + 2, none⟩ = some (.slice na gl nc) := k0
  obtain ⟨i1, hi1⟩ : ∃ i1, n1 + 1 = i1 := ⟨_, rfl⟩
  have HK1 : Hid (w6.cell? ⟨ob, oo + i1 * 4 + 1, none⟩ = some (.int .u64 (j1 : Int))) := Lib.hid (by
    rw [← hi1]
    have e1 : (({ n := A.length } : Ans).n) = j1 := HJ1.out
    rw [show (({ n := A.length } : Ans).n : Nat) = j1 from e1] at k1
    exact k1)
  have b0 : IntKind.i64.wrap ((N : Int) - 2) = (n1 : Int) := by have := HN.out; rw [IntWalk.i64_in _ (by omega)]; omega
  have b1 : IntKind.i64.wrap ((N : Int) - 1) = (i1 : Int) := by have := HN.out; rw [IntWalk.i64_in _ (by omega)]; omega
  have b2 : (0 : Int) ≤ (n1 : Int) := by omega
  have b3 : (n1 : Int) < (N : Int) := by have := HN.out; omega
  have b4 : (0 : Int) ≤ (i1 : Int) := by omega
  have b5 : (i1 : Int) < (N : Int) := by have := HN.out; omega
  have b6 : IntKind.u64.wrap (j1 : Int) = (j1 : Int) := by rw [IntKind.wrap_u64]; omega
  have b7 : (gl : Int) % 2 = 0 := by have := HGL.out; omega
  have b8 : Int.tmod (gl : Int) 2 = 0 := by have := HGL.out; rw [Int.tmod_eq_emod_of_nonneg (by omega)]; omega
  have b9 : gl % 2 = 0 := by have := HGL.out; omega
  have b10 : IntKind.i64.wrap 0 = 0 := by decide
  clear hRS hAs hIts hoa hS6 HANS k0 k1 hx0 hx1 hy0 hy1 hcl HR6 HW5 hf hj0 hnb hL0 hna hnc hi1 HYL
  subst hoa'
  go_wp2_with fail
  go_loopw [11, 12] (fun s i wr => ∃ (k m i' : Nat) (a' : Option Addr) (c' : Nat), k ≤ nb ∧ m ≤ 2 * k ∧ Hid (2 * k = i') ∧ i = .int .i64 (i' : Int) ∧ s = .slice a' m c' ∧ Hid (OwnP w6 wr a' m c' (nzP f j0 k))) (fun _ i _ => gl - (intOf i).toNat)
  case atStart => exact ⟨0, 0, 0, none, 0, Nat.zero_le _, Nat.le_refl _, Lib.hid rfl, rfl, rfl, Lib.hid ⟨Own.nil _ _ _, rfl, Only.refl _ _, fun j hj => hj.elim⟩⟩
  case round =>
    obtain ⟨k, m, i', a', c', hk, hm, HI2, rfl, rfl, HO⟩ := hrel
    by_cases hlt : k < nb
    · obtain ⟨ip, HIP⟩ : ∃ ip, Hid (i' + 1 = ip) := ⟨_, Lib.hid rfl⟩
      have hib : i' ≤ 2000002 := by have := HI2.out; omega
      have hip : IntKind.i64.wrap ((i' : Int) + 1) = (ip : Int) := by have := HIP.out; rw [IntWalk.i64_in _ (by omega)]; omega
      have hlt' : (ip : Int) < (gl : Int) := by have := HIP.out; have := HI2.out; have := HGL.out; omega
      have hip0 : (0 : Int) ≤ (ip : Int) := by omega
      have hlt2 : (i' : Int) < (gl : Int) := by have := HIP.out; omega
      have hk0 : (0 : Int) ≤ (i' : Int) := by omega
      obtain ⟨bg, og, hag, hbg, hcg⟩ := (HGOT.out.rl.still HO.out.2.2.1).at (by have := HGL.out; omega)
      obtain ⟨y, HY⟩ : ∃ y, Hid (j0 + k = y) := ⟨_, Lib.hid rfl⟩
      obtain ⟨v, HV⟩ : ∃ v, Hid (f y = v) := ⟨_, Lib.hid rfl⟩
      have hat := BLf_at f j0 hlt
      rw [HY.out, HV.out, HI2.out, HIP.out] at hat
      have c1 := hcg i' y hat.1
      have c2 := hcg ip v hat.2
      have HNX : Hid (nzP f j0 (k + 1) = if v = 0 then nzP f j0 k else nzP f j0 k ++ [(y, v)]) := Lib.hid (by
        show (if f (j0 + k) = 0 then _ else _) = _
        rw [HY.out, HV.out])
      have HI3 : Hid (2 * (k + 1) = i' + 2) := Lib.hid (by have := HI2.out; omega)
      have bb := HO.out.1.bound
      by_cases hk1 : k = 0
      · have hone : ¬ (1 : Int) < (i' : Int) := by have := HI2.out; omega
        have hone3 : decide ((1 : Int) < (i' : Int)) = false := by simp; omega
        have hone5 : (i' : Int) ≤ 1 := by omega
        clear hcg hat hk1
        subst hag
        go_wp2_with fail
        go_quiet (fail)
        obtain ⟨wq, hwq⟩ : ∃ wq, Same wr wq ∧ wq = wr.drewN nq := ⟨_, (Only.refl _ _).drewN _, rfl⟩
        rw [← hwq.2]
        have HQ : Hid (Same wr wq) := Lib.hid hwq.1
        have c4 : wq.cell? ⟨bg, og + ip, none⟩ = some (.int .u64 (v : Int)) := (hwq.1.cell (p := ⟨bg, og + ip, none⟩) (ltCell c2) id).trans c2
        have c5 : wq.cell? ⟨bg, og + i', none⟩ = some (.int .u64 (y : Int)) := (hwq.1.cell (p := ⟨bg, og + i', none⟩) (ltCell c1) id).trans c1
        clear hwq c1 c2
        by_cases hv : v = 0
        · have HNX2 : Hid (nzP f j0 (k + 1) = nzP f j0 k) := Lib.hid (by rw [HNX.out, if_pos hv])
          subst hv
          go_wp2_with fail
          go_roundw
          case rel => exact ⟨k + 1, m, i' + 2, a', c', by omega, by omega, HI3, by go_num, rfl, Lib.hid (by rw [HNX2.out]; exact HO.out.still HQ.out)⟩
          case measure => simp [intOf]; omega
        · have HNX2 : Hid (nzP f j0 (k + 1) = nzP f j0 k ++ [(y, v)]) := Lib.hid (by rw [HNX.out, if_neg hv])
          have hv1 : ((v : Int) == 0) = false := by rw [beq_eq_false_iff_ne]; omega
          have hv2 : ((v : Int) != 0) = true := by rw [bne_iff_ne]; omega
          have hv3 : ¬ (v : Int) = 0 := by omega
          go_wp2_with fail
          clear hv hv1 hv2 hv3
          go_region_law (first
            | (refine step_app (m + 2) (U (flatP (nzP f j0 k)) ++ U [y, v]) (by rfl) _ _ _ _ (by rfl) slWord ?_ ((HO.out.still HQ.out).1.keep (S := fun _ => False) (by with_reducible repeat (first | exact Only.refl _ _ | apply Only.alloc | apply Only.drew)) (fun _ _ => id)) ?_ (Src.row (size := 1) (cs := #[.int .u64 (y : Int), .int .u64 (v : Int)]) (t := 24) (fr := (0, 0)) Try.underlying23 (show ((wq.alloc (.cells #[.int .u64 (y : Int), .int .u64 (v : Int)] 24)).drew).heap[wq.heap.size]? = _ from heap_alloc_new' wq _ _ rfl) 2 2 rfl (by simp [Value.oneCell'])) rfl rfl (by unfold maxLen; omega) (by omega) ?_; (go_simp); (go_simp); intro a2 c2 w9 hG))
          all_goals
            have HP6 : Hid (OwnP w6 w9 a2 (m + 2) c2 (nzP f j0 k ++ [(y, v)])) := Lib.hid (by
              have hQ := HO.out.still HQ.out
              refine ⟨?_, ?_, new_only (Same.trans hQ.2.2.1 (((Only.refl _ _).alloc _).drew)) hG.only (fun j hj => hQ.2.2.2 j hj), fun j hj => ?_⟩
              · rw [flatP_snoc]
                have := hG.own
                rw [← U_app] at *
                exact this
              · have := hQ.2.1
                rw [List.length_append, Nat.mul_add, ← this]; rfl
              · rcases hG.fresh j hj with h1 | h1
                · exact hQ.2.2.2 j h1
                · have h8 := hQ.2.2.1.size
                  have h7 : wq.heap.size + 1 ≤ j := by simpa using h1
                  omega)
            clear hG
            go_wp2_with fail
            go_roundw
            case rel => exact ⟨k + 1, m + 2, i' + 2, a2, c2, by omega, by omega, HI3, by go_num, rfl, Lib.hid (by rw [HNX2.out]; exact HP6.out)⟩
            case measure => simp [intOf]; omega
      · have hone : (1 : Int) < (i' : Int) := by have := HI2.out; omega
        obtain ⟨i0, HI0⟩ : ∃ i0, Hid (i0 + 2 = i') := ⟨i' - 2, Lib.hid (by omega)⟩
        obtain ⟨y0, HY0⟩ : ∃ y0, Hid (j0 + (k - 1) = y0) := ⟨_, Lib.hid rfl⟩
        have hat0 := (BLf_at f j0 (show k - 1 < nb by omega)).1
        rw [HY0.out, show 2 * (k - 1) = i0 by have := HI2.out; have := HI0.out; omega] at hat0
        have c3 := hcg i0 y0 hat0
        have hi0 : IntKind.i64.wrap ((i' : Int) - 2) = (i0 : Int) := by have := HI0.out; rw [IntWalk.i64_in _ (by omega)]; omega
        have hi01 : (0 : Int) ≤ (i0 : Int) := by omega
        have hi02 : (i0 : Int) < (gl : Int) := by have := HI0.out; omega
        have hyy : ¬ (y : Int) ≤ (y0 : Int) := by have := HY.out; have := HY0.out; omega
        clear hcg hat hat0 hk1
        subst hag
        go_wp2_with fail
        go_quiet (fail)
        obtain ⟨wq, hwq⟩ : ∃ wq, Same wr wq ∧ wq = wr.drewN nq := ⟨_, (Only.refl _ _).drewN _, rfl⟩
        rw [← hwq.2]
        have HQ : Hid (Same wr wq) := Lib.hid hwq.1
        have c4 : wq.cell? ⟨bg, og + ip, none⟩ = some (.int .u64 (v : Int)) := (hwq.1.cell (p := ⟨bg, og + ip, none⟩) (ltCell c2) id).trans c2
        have c5 : wq.cell? ⟨bg, og + i', none⟩ = some (.int .u64 (y : Int)) := (hwq.1.cell (p := ⟨bg, og + i', none⟩) (ltCell c1) id).trans c1
        clear hwq c1 c2
        by_cases hv : v = 0
        · have HNX2 : Hid (nzP f j0 (k + 1) = nzP f j0 k) := Lib.hid (by rw [HNX.out, if_pos hv])
          subst hv
          go_wp2_with fail
          go_roundw
          case rel => exact ⟨k + 1, m, i' + 2, a', c', by omega, by omega, HI3, by go_num, rfl, Lib.hid (by rw [HNX2.out]; exact HO.out.still HQ.out)⟩
          case measure => simp [intOf]; omega
        · have HNX2 : Hid (nzP f j0 (k + 1) = nzP f j0 k ++ [(y, v)]) := Lib.hid (by rw [HNX.out, if_neg hv])
          have hv1 : ((v : Int) == 0) = false := by rw [beq_eq_false_iff_ne]; omega
          have hv2 : ((v : Int) != 0) = true := by rw [bne_iff_ne]; omega
          have hv3 : ¬ (v : Int) = 0 := by omega
          go_wp2_with fail
          clear hv hv1 hv2 hv3
          go_region_law (first
            | (refine step_app (m + 2) (U (flatP (nzP f j0 k)) ++ U [y, v]) (by rfl) _ _ _ _ (by rfl) slWord ?_ ((HO.out.still HQ.out).1.keep (S := fun _ => False) (by with_reducible repeat (first | exact Only.refl _ _ | apply Only.alloc | apply Only.drew)) (fun _ _ => id)) ?_ (Src.row (size := 1) (cs := #[.int .u64 (y : Int), .int .u64 (v : Int)]) (t := 24) (fr := (0, 0)) Try.underlying23 (show ((wq.alloc (.cells #[.int .u64 (y : Int), .int .u64 (v : Int)] 24)).drew).heap[wq.heap.size]? = _ from heap_alloc_new' wq _ _ rfl) 2 2 rfl (by simp [Value.oneCell'])) rfl rfl (by unfold maxLen; omega) (by omega) ?_; (go_simp); (go_simp); intro a2 c2 w9 hG))
          all_goals
            have HP6 : Hid (OwnP w6 w9 a2 (m + 2) c2 (nzP f j0 k ++ [(y, v)])) := Lib.hid (by
              have hQ := HO.out.still HQ.out
              refine ⟨?_, ?_, new_only (Same.trans hQ.2.2.1 (((Only.refl _ _).alloc _).drew)) hG.only (fun j hj => hQ.2.2.2 j hj), fun j hj => ?_⟩
              · rw [flatP_snoc]
                have := hG.own
                rw [← U_app] at *
                exact this
              · have := hQ.2.1
                rw [List.length_append, Nat.mul_add, ← this]; rfl
              · rcases hG.fresh j hj with h1 | h1
                · exact hQ.2.2.2 j h1
                · have h8 := hQ.2.2.1.size
                  have h7 : wq.heap.size + 1 ≤ j := by simpa using h1
                  omega)
            clear hG
            go_wp2_with fail
            go_roundw
            case rel => exact ⟨k + 1, m + 2, i' + 2, a2, c2, by omega, by omega, HI3, by go_num, rfl, Lib.hid (by rw [HNX2.out]; exact HP6.out)⟩
            case measure => simp [intOf]; omega
    · obtain ⟨ip, HIP⟩ : ∃ ip, Hid (i' + 1 = ip) := ⟨_, Lib.hid rfl⟩
      have hib : i' ≤ 2000002 := by have := HI2.out; omega
      have hip : IntKind.i64.wrap ((i' : Int) + 1) = (ip : Int) := by have := HIP.out; rw [IntWalk.i64_in _ (by omega)]; omega
      have hlt' : ¬ (ip : Int) < (gl : Int) := by have := HIP.out; have := HI2.out; have := HGL.out; omega
      obtain rfl : k = nb := by omega
      rw [HNZ.out] at HO
      obtain ⟨W0, hW0⟩ : ∃ W0, wr = W0 := ⟨_, rfl⟩
      rw [hW0] at HO ⊢
      clear hW0
      have HK : Hid (∀ wx, Same W0 wx → wx.cell? ⟨g, 2, none⟩ = some (.slice sa j1 sc) ∧ wx.cell? ⟨ob, oo + i1 * 4 + 1, none⟩ = some (.int .u64 (j1 : Int))) := Lib.hid (fun wx hS => ⟨block_cell ((Same.trans HO.out.2.2.1 hS).obj HS06.out.2.1 id) rfl, ((Same.trans HO.out.2.2.1 hS).cell (p := ⟨ob, oo + i1 * 4 + 1, none⟩) (ltCell HK1.out) id).trans HK1.out⟩)
      have d1 := (HK.out W0 (Only.refl _ _)).1
      have d2 := (HK.out W0 (Only.refl _ _)).2
      obtain ⟨bl, HBLL⟩ : ∃ bl, Hid ((flatP (bkP A)).length = bl) := ⟨_, Lib.hid rfl⟩
      have HMB : Hid (m = bl) := Lib.hid (by rw [← HBLL.out, flatP_len]; exact HO.out.2.1)
      have HBK : Hid (∀ wx, Same W0 wx → Calls Try.prog 20 #[.slice sa j1 sc] wx (fun e w' => ∃ bs bc, e = .returned (.slice bs bl bc) ∧ OU w' bs bl bc (flatP (bkP A)) ∧ Same W0 w')) := Lib.hid (fun wx hS => by
        refine (baBlocks ((HS06.out.2.2.still (Same.trans HO.out.2.2.1 hS)).rl) HP.out.1 HP.out.2.1 (by omega)).mono ?_
        rintro e w' ⟨bs, bc, h1, h2, h3, h4⟩
        rw [HBLL.out] at h1 h2
        exact ⟨bs, bc, h1, h2, Same.trans hS h3⟩)
      have HBS : Hid (∀ wx bs bc, OU wx bs bl bc (flatP (bkP A)) → Same W0 wx → Calls Try.prog 12 #[.slice a' m c', .slice bs bl bc] wx (fun e w' => e = .returned (.bool true) ∧ Same W0 w')) := Lib.hid (fun wx bs bc h1 hS => by
        have h2 : OU wx a' m c' (flatP (bkP A)) := ⟨HO.out.1.keep hS (fun _ _ => id), by rw [flatP_len]; exact HO.out.2.1.symm⟩
        refine (baSame h2.rl h1.rl).mono ?_
        rintro e w' ⟨h3, h4⟩
        exact ⟨by rw [h3]; simp, Same.trans hS h4⟩)
      clear HBLL HMB
      go_wp2_with fail
      go_region_held3 (fun w' => w'.cell? ⟨g, 2, none⟩ = some (.slice sa j1 sc) ∧ w'.cell? ⟨ob, oo + i1 * 4 + 1, none⟩ = some (.int .u64 (j1 : Int))) (first | exact HK.out _ (Only.drew (Only.refl _ _)) | exact HK.out _ (by assumption)) (first
        | ((go_at_call 20; (with_reducible refine (HBK.out _ (by exact (Only.refl _ W0).drew)).mono ?_); rintro e w7 ⟨bs, bc, rfl, hO7, hS7⟩))
        | ((go_at_call 12; (with_reducible refine (HBS.out w7 bs bc hO7 hS7).mono ?_); rintro e w8 ⟨rfl, hS8⟩)))
      all_goals
        have HS8 := Lib.hid (Same.trans HS06.out.1 (Same.trans HO.out.2.2.1 hS8))
        clear hS8
        go_wp2_with fail
        go_ret
        exact ⟨rfl, HS8.out⟩
end Go.Proofs.Ytacjkbljokjdkaa.ba

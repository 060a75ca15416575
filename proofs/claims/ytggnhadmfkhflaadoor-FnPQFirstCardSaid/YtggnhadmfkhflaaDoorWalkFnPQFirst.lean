/-
  FnPQFirst: the walk.
-/
import Derived.Test.YtggnhadmfkhflaaDoorPqFirst
import Derived.Test.YtggnhadmfkhflaaDoorPqEq
namespace Go.Proofs.YtggnhadmfkhflaaDoor.walkFnPQFirst
open Go.RowKit Go.Proofs.YtggnhadmfkhflaaDoor.base Go.Proofs.YtggnhadmfkhflaaDoor.heap Go.Proofs.YtggnhadmfkhflaaDoor.rows Go.Proofs.YtggnhadmfkhflaaDoor.pq
set_option linter.unusedVariables false

theorem heap2_a (w : World) (A B : Obj) : ((w.alloc A).alloc B).drew.heap[w.heap.size]? = some A := by
  show ((w.heap.push A).push B)[w.heap.size]? = _
  rw [Array.getElem?_push, if_neg (by simp), Array.getElem?_push, if_pos rfl]
theorem heap2_b (w : World) (A B : Obj) : ((w.alloc A).alloc B).drew.heap[w.heap.size + 1]? = some B := by
  show ((w.heap.push A).push B)[w.heap.size + 1]? = _
  rw [Array.getElem?_push, if_pos (by simp)]
set_option maxRecDepth 100000 in
set_option maxHeartbeats 3200000 in
theorem main (a : Option Addr) (n cap : Nat) (l : List It) (w : World) (h : RIt w a n cap l) :
    Calls Tryd.prog 3 #[.slice a n cap] w fun e w' => e = .returned (.bool true) ∧ Below w.heap.size w w' := by
  have hbd := h.bound
  by_cases hn : 1 ≤ n ∧ n ≤ 20
  · obtain ⟨hn0, hn1⟩ := hn
    have q1 : ¬ (2147483647 : Int) < (n : Int) := by omega
    have q2 : ((n : Int) == 0) = false := by simp; omega
    have q3 : (n == 0) = false := by simp; omega
    have q4 : ¬ (20 : Int) < (n : Int) := by omega
    have HR := Lib.hid h
    clear h
    obtain ⟨p, HP⟩ : ∃ p, Hid ((⟨1, 0, a, n, cap, l⟩ : Stp) = p) := ⟨_, Lib.hid rfl⟩
    have HP1 : Hid (p.op = 1 ∧ p.R = l ∧ p.m = n) := Lib.hid (by rw [← HP.out]; exact ⟨rfl, rfl, rfl⟩)
    have HI0 : Hid (Sts w (w.alloc (.cells #[.int .i64 1, .int .i64 0, .slice a n cap] 24)) (some ⟨w.heap.size, 0, none⟩) 1 1 (fs p 0)) := Lib.hid (by
      refine ⟨⟨?_, rfl⟩, (Only.refl _ _).alloc _, fun j hj => by have : w.heap.size = j := hj; omega⟩
      have := Own.of_block (e := 24) (size := 3) (cur := #[.int .i64 1, .int .i64 0, .slice a n cap]) (heap_alloc_new w _) 1 1 (by omega) (by unfold maxLen; omega) rfl (by simp [Value.oneCell'])
      rw [← HP.out]
      exact this)
    go_enter Tryd.func3, Tryd.ntmps3
    go_wp2_with fail
    clear q1 q2 q3 q4
    go_loopw [3, 26] (fun o i wr => ∃ (j k : Nat) (sa : Option Addr) (sc : Nat), o = .slice sa k sc ∧ i = .int .i64 (j : Int) ∧ j ≤ n ∧ k = 1 + 2 * j ∧ Hid (Sts w wr sa k sc (fs p j))) (fun _ i _ => n - (intOf i).toNat)
    case atStart => exact ⟨0, 1, _, _, rfl, rfl, Nat.zero_le _, rfl, HI0⟩
    case round =>
      clear HI0
      obtain ⟨j, k, sa, sc, rfl, rfl, hj, hkj, HI⟩ := hrel
      have hbo := HI.out.row.bound
      have hk50 : k ≤ 50 := by omega
      have HKJ := Lib.hid hkj
      clear hkj
      by_cases hlt : j < n
      · have hlt' : (j : Int) < (n : Int) := by omega
        go_wp2_with (at_builtin; refine wpList_append (k + 2) ((fs p j).flatMap stc ++ [sPeek, sGet].flatMap stc) rfl _ _ _ _ rfl slSt rfl (HI.out.row.1.keep (S := fun _ => False) (by repeat (first | exact Only.refl _ _ | apply Only.alloc | apply Only.drew)) (fun _ _ => id)) rfl (Src.row (size := 3) (cs := #[.int .i64 3, .int .i64 0, .slice none 0 0, .int .i64 2, .int .i64 1, .slice none 0 0]) (t := 24) (fr := (0, 0)) Tryd.underlying25 (by exact heap_alloc_new _ _) 2 2 rfl (by simp [Value.oneCell'])) rfl rfl (by unfold maxLen; omega) (by omega) ?_)
        intro sa2 sc2 w2 hG
        have HI2 : Hid (Sts w w2 sa2 (k + 2) sc2 (fs p (j + 1))) := Lib.hid (HI.out.grew ((Only.refl _ _).alloc _) rfl hG)
        have hk2 : k + 2 = 1 + 2 * (j + 1) := by have := HKJ.out; omega
        clear hG
        go_wp2_with fail
        go_roundw
        case rel => exact ⟨j + 1, k + 2, sa2, sc2, rfl, by go_num, by omega, hk2, HI2⟩
        case measure => simp [intOf]; omega
      · have hlt' : ¬ (j : Int) < (n : Int) := by omega
        obtain rfl : j = n := by omega
        go_wp2_with (at_builtin; refine wpList_append (k + 1) ((fs p j).flatMap stc ++ [sEmpty].flatMap stc) rfl _ _ _ _ rfl slSt rfl (HI.out.row.1.keep (S := fun _ => False) (by repeat (first | exact Only.refl _ _ | apply Only.alloc | apply Only.drew)) (fun _ _ => id)) rfl (Src.row (size := 3) (cs := #[.int .i64 5, .int .i64 0, .slice none 0 0]) (t := 24) (fr := (0, 0)) Tryd.underlying25 (by exact heap_alloc_new _ _) 1 1 rfl (by simp [Value.oneCell'])) rfl rfl (by unfold maxLen; omega) (by omega) ?_)
        intro sa2 sc2 w2 hG
        have HI2 : Hid (Sts w w2 sa2 (k + 1) sc2 (fs p j ++ [sEmpty])) := Lib.hid (HI.out.grew ((Only.refl _ _).alloc _) rfl hG)
        have HRUN : Hid (Calls Tryd.prog 5 #[.int .i64 3, .bool true, .slice sa2 (k + 1) sc2] w2 (RunPost w2 (fs p j ++ [sEmpty]) (k + 1))) := Lib.hid (by
          refine pqRun 3 (by omega) sa2 (k + 1) sc2 _ w2 HI2.out.row.rs (by omega) (fun s hs => ?_) ?_
          · have hs' : s = p ∨ s = sPeek ∨ s = sGet ∨ s = sEmpty := by
              rcases List.mem_append.1 hs with hs | hs
              · rcases fs_mem p j s hs with h | h | h
                · exact .inl h
                · exact .inr (.inl h)
                · exact .inr (.inr (.inl h))
              · simp at hs; exact .inr (.inr (.inr hs))
            rcases hs' with rfl | rfl | rfl | rfl
            · rw [← HP.out]
              exact ⟨⟨⟨by show (1 : Int) ≤ 1; omega, by show (1 : Int) ≤ 5; omega⟩, fun _ => ⟨hn0, by show j ≤ 1000; omega⟩, fun e => absurd e (by show ¬ (1 : Int) = 2; omega), HR.out.2⟩, HR.out.still HI2.out.same⟩
            · exact ⟨⟨⟨by show (1 : Int) ≤ 3; omega, by show (3 : Int) ≤ 5; omega⟩, fun e => absurd e (by show ¬ (3 : Int) = 1; omega), fun e => absurd e (by show ¬ (3 : Int) = 2; omega), rfl⟩, RS.nil _ _ _⟩
            · exact ⟨⟨⟨by show (1 : Int) ≤ 2; omega, by show (2 : Int) ≤ 5; omega⟩, fun e => absurd e (by show ¬ (2 : Int) = 1; omega), fun _ => ⟨1, rfl, by omega, by omega⟩, rfl⟩, RS.nil _ _ _⟩
            · exact ⟨⟨⟨by show (1 : Int) ≤ 5; omega, by show (5 : Int) ≤ 5; omega⟩, fun e => absurd e (by show ¬ (5 : Int) = 1; omega), fun e => absurd e (by show ¬ (5 : Int) = 2; omega), rfl⟩, RS.nil _ _ _⟩
          · rw [List.map_append, List.sum_append, fs_sum, HP1.out.2.2]
            show j + (0 + 0) < 100000
            omega)
        clear hG
        go_wp2_with fail
        refine HRUN.out.mono ?_
        rintro e w4 ⟨oa, oc, As, L, rfl, hrs, hits, hnew, hran, hs4⟩
        have hboc := hrs.bound
        have HX : Hid (RS anc 4 w4 oa (k + 1) oc As ∧ (∀ x ∈ As, RIt w4 x.a x.L.length x.cap x.L ∧ ∀ j, At x.a j → w2.heap.size ≤ j) ∧ Same w2 w4 ∧ Ran (fs p j ++ [sEmpty]) As L) := Lib.hid ⟨hrs, hits, hs4, hran⟩
        clear hrs hits hnew hran hs4 HRUN
        have HALL : Hid (Calls Tryd.prog 6 #[.bool true, .slice (some ⟨w4.heap.size, 0, none⟩) 1 1] (w4.alloc (.cells #[.slice a j cap] 22)) (AllPost (w4.alloc (.cells #[.slice a j cap] 22)) [⟨a, j, cap, l⟩])) := Lib.hid (by
          have hsm : Same w (w4.alloc (.cells #[.slice a j cap] 22)) := (HI2.out.same.trans HX.out.2.2.1).alloc _
          refine pqAll _ 1 1 [⟨a, j, cap, l⟩] _ ⟨?_, rfl⟩ (by omega) (fun s hs => by simp at hs; subst hs; exact HR.out.still hsm) (fun s hs => by simp at hs; subst hs; show j ≤ 30; omega)
          exact (Own.of_block (e := 22) (size := 1) (cur := #[.slice a j cap]) (heap_alloc_new w4 _) 1 1 (by omega) (by unfold maxLen; omega) rfl (by simp [Value.oneCell'])).rd)
        go_wp2_with fail
        refine HALL.out.mono ?_
        rintro e w5 ⟨ra, rc, R, rfl, hrr, hsr, hpr, hs5, hnr⟩
        have hs24 : Same w4 w5 := Only.trans ((Only.refl _ w4).alloc _) hs5 (fun _ _ h => h)
        have hpr' : R.Perm l := by simpa using hpr
        have hrl : R.length = j := by rw [hpr'.length_eq]; exact HR.out.2
        obtain ⟨As0, y, L0, hAs, hr0, hst⟩ := HX.out.2.2.2.inv _ _ rfl
        obtain ⟨R1, hF⟩ := first_law HP1.out.1 j (by rw [HP1.out.2.1, HR.out.2]; exact Nat.le_refl _) hr0
        have hpl : R1.length + L0.length = j := by
          have := hF.perm.length_eq
          rw [List.length_append, HP1.out.2.1, HR.out.2] at this; exact this
        have hL0 : L0 = [] := List.eq_nil_of_length_eq_zero (by have := hF.len; omega)
        subst hL0
        have hyis : y.is = true := by
          rcases hst with ⟨e, _⟩ | ⟨e, _⟩ | ⟨e, _⟩ | ⟨e, _⟩ | ⟨e, _⟩ | ⟨_, _, _, e, _⟩
          · exact absurd e (by decide)
          · exact absurd e (by decide)
          · exact absurd e (by decide)
          · exact absurd e (by decide)
          · exact absurd e (by decide)
          · rw [e]; rfl
        have hkk : As0.length = k := by have := hF.cnt; have := HKJ.out; omega
        have hyk : As[k]? = some y := by rw [hAs, List.getElem?_append_right (by omega), hkk, Nat.sub_self]; rfl
        have hp1 : R1.Perm l := by have := hF.perm; rw [List.append_nil, HP1.out.2.1] at this; exact this
        have hkeys : R.map (·.key) = R1.map (·.key) := srt_keys hsr hF.srt (hpr'.trans hp1.symm)
        have HLAW : Hid (∀ i, i < j → ∃ x u v, As[1 + 2 * i]? = some u ∧ As[2 + 2 * i]? = some v ∧ u.L = [x] ∧ v.L = [x] ∧ ∃ z, R[i]? = some z ∧ z.key = x.key) := Lib.hid (fun i hi => by
          obtain ⟨x, hx⟩ : ∃ x, R1[i]? = some x := ⟨_, List.getElem?_eq_getElem (by rw [hF.len]; exact hi)⟩
          obtain ⟨z, hz⟩ : ∃ z, R[i]? = some z := ⟨_, List.getElem?_eq_getElem (by rw [hrl]; exact hi)⟩
          obtain ⟨u, v, h1, h2, h3, h4⟩ := hF.said i x hx
          have hc := hF.cnt
          refine ⟨x, u, v, by rw [hAs, List.getElem?_append_left (by omega)]; exact h1, by rw [hAs, List.getElem?_append_left (by omega)]; exact h2, h3, h4, z, hz, ?_⟩
          have := congrArg (fun l => l[i]?) hkeys
          simp only [List.getElem?_map, hx, hz, Option.map_some] at this
          exact Option.some.inj this)
        obtain ⟨b, off, ha, hb, hc⟩ := (HX.out.1.still hs24).at anc_len (by omega)
        have c2 : w5.cell? ⟨b, off + k * 4 + 2, none⟩ = some (.bool true) := by have := hc k y hyk 2 _ rfl; rw [hyis] at this; exact this
        have hRR : RIt w5 ra j rc R := by rw [← hrl]; exact hrr
        have HX5 : Hid (RS anc 4 w5 oa (k + 1) oc As ∧ (∀ x ∈ As, RIt w5 x.a x.L.length x.cap x.L) ∧ RIt w5 ra j rc R ∧ Same w w5) := Lib.hid ⟨HX.out.1.still hs24, fun x hx => (HX.out.2.1 x hx).1.still hs24, hRR, (HI2.out.same.trans HX.out.2.2.1).trans hs24⟩
        have hbr := hRR.bound
        subst ha
        rw [hrl]
        have n1 : ((k : Int) + 1 != (k : Int) + 1) = false := by simp
        have n2 : ((j : Int) != (j : Int)) = false := by simp
        clear hc hrr hsr hpr hs5 hnr hs24 hpr' hrl hAs hr0 hst hF hpl hyis hkk hyk hp1 hkeys hRR HALL
        go_wp2_with fail
        clear n1 n2 c2
        go_loopw [73] (fun i wx => ∃ q : Nat, q ≤ j ∧ i = .int .i64 (q : Int) ∧ Hid (Same w5 wx)) (fun i _ => j - (intOf i).toNat)
        case atStart => exact ⟨0, Nat.zero_le _, rfl, Lib.hid (Only.refl _ _)⟩
        case round =>
          obtain ⟨q, hq, rfl, HSW⟩ := hrel
          by_cases hlt : q < j
          · have hlt' : (q : Int) < (j : Int) := by omega
            obtain ⟨x, u, v, hu, hv, hul, hvl, z, hz, hzk⟩ := HLAW.out q hlt
            obtain ⟨b', off', e, hb', hc⟩ := (HX5.out.1.still HSW.out).at anc_len (by omega)
            cases e
            have hu1 := hc _ u hu
            have hv1 := hc _ v hv
            have hri := (HX5.out.2.1 u (List.mem_of_getElem? hu)).still HSW.out
            have hrj := (HX5.out.2.1 v (List.mem_of_getElem? hv)).still HSW.out
            obtain ⟨ul, ub, uo, hue, hulen, huc⟩ : ∃ ul ub uo, u.a = some ⟨ub, uo, none⟩ ∧ u.L.length = ul ∧ ul = 1 ∧ wr.cell? ⟨ub, uo, none⟩ = some (.int .i64 x.key) ∧ wr.cell? ⟨ub, uo + 1, none⟩ = some (.int .i64 x.tag) ∧ 1 ≤ u.cap := by
              obtain ⟨ub, uo, hue, _, huc⟩ := hri.at itc_len (by rw [hul]; exact Nat.one_pos)
              refine ⟨1, ub, uo, hue, by rw [hul]; rfl, rfl, ?_, ?_, by have := hri.bound.1; rw [hul] at this; exact this⟩
              · have := huc 0 x (by rw [hul]; rfl) 0 _ rfl; simpa using this
              · have := huc 0 x (by rw [hul]; rfl) 1 _ rfl; simpa using this
            obtain ⟨vl, vb, vo, hve, hvlen, hvc⟩ : ∃ vl vb vo, v.a = some ⟨vb, vo, none⟩ ∧ v.L.length = vl ∧ vl = 1 ∧ wr.cell? ⟨vb, vo, none⟩ = some (.int .i64 x.key) ∧ wr.cell? ⟨vb, vo + 1, none⟩ = some (.int .i64 x.tag) ∧ 1 ≤ v.cap := by
              obtain ⟨ub, uo, hue, _, huc⟩ := hrj.at itc_len (by rw [hvl]; exact Nat.one_pos)
              refine ⟨1, ub, uo, hue, by rw [hvl]; rfl, rfl, ?_, ?_, by have := hrj.bound.1; rw [hvl] at this; exact this⟩
              · have := huc 0 x (by rw [hvl]; rfl) 0 _ rfl; simpa using this
              · have := huc 0 x (by rw [hvl]; rfl) 1 _ rfl; simpa using this
            obtain ⟨rfl, g0, g1, g2⟩ := huc
            obtain ⟨rfl, g3, g4, g5⟩ := hvc
            have u0 : wr.cell? ⟨b, off + (1 + 2 * q) * 4, none⟩ = some (.slice (some ⟨ub, uo, none⟩) 1 u.cap) := by have := hu1 0 _ rfl; rw [hulen, hue] at this; exact this
            have u1 : wr.cell? ⟨b, off + (1 + 2 * q) * 4 + 1, none⟩ = some (.int .i64 u.num) := hu1 1 _ rfl
            have u2 : wr.cell? ⟨b, off + (1 + 2 * q) * 4 + 2, none⟩ = some (.bool u.is) := hu1 2 _ rfl
            have u3 : wr.cell? ⟨b, off + (1 + 2 * q) * 4 + 3, none⟩ = some (.int .i64 u.err) := hu1 3 _ rfl
            have v0 : wr.cell? ⟨b, off + (2 + 2 * q) * 4, none⟩ = some (.slice (some ⟨vb, vo, none⟩) 1 v.cap) := by have := hv1 0 _ rfl; rw [hvlen, hve] at this; exact this
            have v1 : wr.cell? ⟨b, off + (2 + 2 * q) * 4 + 1, none⟩ = some (.int .i64 v.num) := hv1 1 _ rfl
            have v2 : wr.cell? ⟨b, off + (2 + 2 * q) * 4 + 2, none⟩ = some (.bool v.is) := hv1 2 _ rfl
            have v3 : wr.cell? ⟨b, off + (2 + 2 * q) * 4 + 3, none⟩ = some (.int .i64 v.err) := hv1 3 _ rfl
            clear hu1 hv1 hc hri hrj hue hve hulen hvlen hul hvl
            generalize u.cap = uc at *
            generalize u.num = un at *
            generalize u.is = ui at *
            generalize u.err = ue at *
            generalize v.cap = vc at *
            generalize v.num = vn at *
            generalize v.is = vi at *
            generalize v.err = ve at *
            obtain ⟨m1, hm1⟩ : ∃ m1, m1 = 1 + 2 * q := ⟨_, rfl⟩
            obtain ⟨m2, hm2⟩ : ∃ m2, m2 = 2 + 2 * q := ⟨_, rfl⟩
            rw [← hm1] at u0 u1 u2 u3
            rw [← hm2] at v0 v1 v2 v3
            have k1 : (1 : Int) + 2 * (q : Int) = (m1 : Int) := by omega
            have k2 : (2 : Int) + 2 * (q : Int) = (m2 : Int) := by omega
            have k3 : IntKind.i64.wrap (2 * (q : Int)) = 2 * (q : Int) := IntWalk.i64_in _ (by omega)
            have k4 : IntKind.i64.wrap (m1 : Int) = (m1 : Int) := IntWalk.i64_in _ (by omega)
            have k5 : IntKind.i64.wrap (m2 : Int) = (m2 : Int) := IntWalk.i64_in _ (by omega)
            have l1 : (0 : Int) ≤ (m1 : Int) := by omega
            have l2 : (0 : Int) ≤ (m2 : Int) := by omega
            have l3 : (m1 : Int) < (k : Int) + 1 := by have := HKJ.out; omega
            have l4 : (m2 : Int) < (k : Int) + 1 := by have := HKJ.out; omega
            clear hm1 hm2 hu hv
            go_upto_region 17 with fail
            go_cut [8, 9] (fun p1 p2 wx => ∃ s1 s2 : Nat, p1 = .pointer (some ⟨s1, 0, none⟩) ∧ p2 = .pointer (some ⟨s2, 0, none⟩) ∧ Hid (wx.heap[s1]? = some (.cells #[.slice (some ⟨ub, uo, none⟩) 1 uc, .int .i64 un, .bool ui, .int .i64 ue] 32 (0, 0)) ∧ wx.heap[s2]? = some (.cells #[.slice (some ⟨vb, vo, none⟩) 1 vc, .int .i64 vn, .bool vi, .int .i64 ve] 32 (0, 0)) ∧ Same wr wx))
            case first =>
              go_region_held3 (fun w' => w'.cell? ⟨b, off + m1 * 4, none⟩ = some (.slice (some ⟨ub, uo, none⟩) 1 uc) ∧ w'.cell? ⟨b, off + m1 * 4 + 1, none⟩ = some (.int .i64 un) ∧ w'.cell? ⟨b, off + m1 * 4 + 2, none⟩ = some (.bool ui) ∧ w'.cell? ⟨b, off + m1 * 4 + 3, none⟩ = some (.int .i64 ue) ∧ w'.cell? ⟨b, off + m2 * 4, none⟩ = some (.slice (some ⟨vb, vo, none⟩) 1 vc) ∧ w'.cell? ⟨b, off + m2 * 4 + 1, none⟩ = some (.int .i64 vn) ∧ w'.cell? ⟨b, off + m2 * 4 + 2, none⟩ = some (.bool vi) ∧ w'.cell? ⟨b, off + m2 * 4 + 3, none⟩ = some (.int .i64 ve)) (go_keep) (fail)
              all_goals
                go_wp2_with fail
                go_meet
                first
                  | exact ⟨_, _, rfl, rfl, Lib.hid ⟨heap2_a _ _ _, heap2_b _ _ _, (((Only.refl _ _).alloc _).alloc _).drew⟩⟩
                  | exact ⟨_, _, rfl, rfl, Lib.hid ⟨heap2_b _ _ _, heap2_a _ _ _, (((Only.refl _ _).alloc _).alloc _).drew⟩⟩
            case rest =>
              obtain ⟨s1, s2, rfl, rfl, HC2⟩ := hcut
              obtain ⟨W2, hW2⟩ : ∃ W2, W2 = wc := ⟨_, rfl⟩
              rw [← hW2] at HC2 ⊢
              clear hW2
              have t1 : W2.cell? ⟨s1, 0, none⟩ = some (.slice (some ⟨ub, uo, none⟩) 1 uc) := block_cell HC2.out.1 rfl
              have t2 : W2.cell? ⟨s2, 0, none⟩ = some (.slice (some ⟨vb, vo, none⟩) 1 vc) := block_cell HC2.out.2.1 rfl
              have hsm : Same wr W2 := HC2.out.2.2
              have HSW2 := Lib.hid (HSW.out.trans hsm)
              have hcs : ∀ {p : Addr} {y : Value}, wr.cell? p = some y → W2.cell? p = some y := fun {p y} hp => (hsm.cell (World.block_lt_of_cell? wr _ hp) id).trans hp
              replace g0 := hcs g0
              replace g1 := hcs g1
              replace g3 := hcs g3
              replace g4 := hcs g4
              obtain ⟨rb, ro, hra, _, hrc⟩ := (HX5.out.2.2.1.still HSW2.out).at itc_len (by omega)
              have r0 : W2.cell? ⟨rb, ro + q * 2, none⟩ = some (.int .i64 x.key) := by have := hrc q z hz 0 _ rfl; rw [hzk] at this; exact this
              subst hra
              clear hcs u0 u1 u2 u3 v0 v1 v2 v3 hrc hz hzk hsm k1 k2 k3 k4 k5 l1 l2 l3 l4
              generalize x.key = xk at *
              generalize x.tag = xt at *
              have e1 := eq_it xk xt
              have e2 : ((xk : Int) != xk) = false := by simp
              have i1 : (0 : Int) ≤ (q : Int) := by omega
              go_wp2_with fail
              go_quiet (fail)
              go_wp2_with fail
              exact ⟨⟨q + 1, by omega, by go_num, Lib.hid (HSW2.out.drewN _)⟩, by simp [intOf]; omega⟩
          · have hlt' : ¬ (q : Int) < (j : Int) := by omega
            go_wp2_with fail
            go_ret
            exact ⟨rfl, Only.below (HX5.out.2.2.2.trans HSW.out) (Nat.le_refl _) (fun _ _ => id)⟩
  · by_cases hn0 : n = 0
    · subst hn0
      clear h
      go_enter Tryd.func3, Tryd.ntmps3
      go_wp2
      go_ret
      exact ⟨rfl, Only.below (Only.refl (fun _ => False) _) (Nat.le_refl _) (fun _ _ => id)⟩
    · have q2 : ((n : Int) == 0) = false := by simp; omega
      have q3 : (n == 0) = false := by simp; omega
      have q4 : (20 : Int) < (n : Int) := by omega
      by_cases hb : (2147483647 : Int) < (n : Int)
      · clear h
        go_enter Tryd.func3, Tryd.ntmps3
        go_wp2
        go_ret
        exact ⟨rfl, Only.below (Only.refl (fun _ => False) _) (Nat.le_refl _) (fun _ _ => id)⟩
      · clear h
        go_enter Tryd.func3, Tryd.ntmps3
        go_wp2
        go_ret
        exact ⟨rfl, Only.below (Only.refl (fun _ => False) _) (Nat.le_refl _) (fun _ _ => id)⟩
theorem walk (W : World) (v0 : Value) (r0 : Reads Tryd.prog W 22 v0) :
    Calls Tryd.prog 3 #[v0] W fun e w' => e = .returned (.bool true) ∧ Below W.heap.size W w' := by
  obtain ⟨a, n, cap, l, rfl, h⟩ := read_items r0
  exact main a n cap l W h
end Go.Proofs.YtggnhadmfkhflaaDoor.walkFnPQFirst

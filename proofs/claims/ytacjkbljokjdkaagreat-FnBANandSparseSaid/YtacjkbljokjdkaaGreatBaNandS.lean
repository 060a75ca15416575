/-
  Nand of two sparse bit arrays.
-/
import Derived.Test.YtacjkbljokjdkaaGreatBaPrs
import Derived.Test.YtacjkbljokjdkaaGreatBaPairN
namespace Go.Proofs.YtacjkbljokjdkaaGreat.ba
open Go.RowKit Go.Proofs.YtacjkbljokjdkaaGreat.base Go.Proofs.YtacjkbljokjdkaaGreat.heap Go.Proofs.YtacjkbljokjdkaaGreat.rows Go.Proofs.YtacjkbljokjdkaaGreat.bit Go.Proofs.YtacjkbljokjdkaaGreat.bs
set_option linter.unusedVariables false
theorem R_push {R : List (Nat × Nat)} {x : Nat × Nat} : (R ++ [x]).length = R.length + 1 := by simp
set_option maxRecDepth 100000 in
set_option maxHeartbeats 3200000 in
theorem nandSS {w : World} {p1 cb1 ci1 p2 cb2 ci2 : Nat} {ab1 ai1 ab2 ai2 : Option Addr} {P Q : List (Nat × Nat)} {l1 l2 : List Nat} (h1 : Sp w p1 ab1 cb1 ai1 ci1 P) (h2 : Sp w p2 ab2 cb2 ai2 ci2 Q) (r1 : Rep (wd P) l1) (r2 : Rep (wd Q) l2) :
    Calls Tryz.prog 119 #[.pointer (some ⟨p1, 0, none⟩), .pointer (some ⟨p2, 0, none⟩)] w (NewA ⟨false, 0, nandL l1 l2⟩ w) := by
  have H1 := Lib.hid h1
  have H2 := Lib.hid h2
  have HR := Lib.hid (nandP_rep h1.good h2.good r1 r2)
  have HG := Lib.hid (nandP_good (Q := Q) h1.good)
  have hs1 := h1.sm
  have hs2 := h2.sm
  have c1 := h1.c1
  have b1 := h1.idx.bound
  have b2 := h2.idx.bound
  have b3 := h1.blk.bound
  have b4 := h2.blk.bound
  generalize nandL l1 l2 = L at *
  obtain ⟨n1, HN1⟩ : ∃ n, Hid (P.length = n) := ⟨_, Lib.hid rfl⟩
  obtain ⟨n2, HN2⟩ : ∃ n, Hid (Q.length = n) := ⟨_, Lib.hid rfl⟩
  rw [HN1.out] at hs1 c1 b1 b3
  rw [HN2.out] at hs2 b2 b4
  have hm1 := make0_eq (P := Tryz.prog) (e := 34) (size := 1) (t := 92) (z := .int .u64 0) (bytes := 8) .i64 .i64 Tryz.underlying92 (by kernel_rfl) n1 (by omega) (by omega)
  have hm2 := make0_eq (P := Tryz.prog) (e := 74) (size := 1) (t := 91) (z := .int .u64 0) (bytes := 8) .i64 .i64 Tryz.underlying91 (by kernel_rfl) n1 (by omega) (by omega)
  have HP0 := Lib.hid (prs_new w n1 hs1)
  clear h1 h2 r1 r2
  go_enter Tryz.func119, Tryz.ntmps119
  go_wp2_with fail
  clear hm1 hm2 c1
  go_loopw [6, 7, 8, 9] (fun s6 s7 s8 s9 wr => ∃ (i o : Nat) (R : List (Nat × Nat)) (ab : Option Addr) (cb : Nat) (ai : Option Addr) (ci : Nat), i ≤ n1 ∧ o ≤ n2 ∧ R.length ≤ i ∧ s6 = .slice ai R.length ci ∧ s7 = .slice ab R.length cb ∧ s8 = .int .i64 (i : Int) ∧ s9 = .int .i64 (o : Int) ∧ Hid (Prs w wr ab cb ai ci R ∧ Ahead P Q i o ∧ R = nandP (P.take i) Q)) (fun _ _ s8 s9 _ => (n1 - (intOf s8).toNat) + (n2 - (intOf s9).toNat))
  case atStart => exact ⟨0, 0, [], _, _, _, _, Nat.zero_le _, Nat.zero_le _, Nat.le_refl _, rfl, rfl, rfl, rfl, Lib.hid ⟨HP0.out, Ahead.zero _ _ _, rfl⟩⟩
  case round =>
    obtain ⟨i, o, R, ab, cb, ai, ci, hi, ho, hr, rfl, rfl, rfl, rfl, HI⟩ := hrel
    clear HP0
    have s1 := Lib.hid (H1.out.still HI.out.1.same)
    have s2 := Lib.hid (H2.out.still HI.out.1.same)
    have d1 := s1.out.c1
    have e1 := s2.out.c1
    rw [HN1.out] at d1
    rw [HN2.out] at e1
    have hi0 : (0 : Int) ≤ (i : Int) := by omega
    have ho0 : (0 : Int) ≤ (o : Int) := by omega
    have bb := HI.out.1.blk.bound
    have bi := HI.out.1.idx.bound
    by_cases hin : i = n1
    · subst hin
      have HF : Hid (P.take i = P) := Lib.hid (List.take_of_length_le (by have := HN1.out; omega))
      have HRP : Hid (R = nandP P Q) := Lib.hid (by rw [HI.out.2.2, HF.out])
      have HFIN := Lib.hid (HI.out.1.arr (l := L) (by rw [HRP.out]; exact HG.out) (by omega) (by rw [HRP.out]; exact HR.out))
      go_wp2_with fail
      go_ret
      exact HFIN.out
    · have hin' : ((i : Int) == (n1 : Int)) = false := by rw [beq_eq_false_iff_ne]; omega
      have hi1 : (i : Int) < (n1 : Int) := by omega
      obtain ⟨bb1, ii1, q1, q2, hc1⟩ := s1.out.at (by have := HN1.out; omega)
      obtain ⟨x, hx⟩ : ∃ x, P[i]? = some x := ⟨P[i]'(by have := HN1.out; omega), List.getElem?_eq_getElem _⟩
      have f2 := (hc1 i x hx).1
      have f1 := (hc1 i x hx).2
      have d0 := s1.out.c0
      rw [HN1.out] at d0
      have HX := Lib.hid hx
      have HOK := Lib.hid (H1.out.ok x (List.mem_of_getElem? hx))
      clear hc1
      by_cases hon : o = n2
      · subst hon
        have HGN : Hid (gN Q x = some (x.1, x.2)) := Lib.hid (by unfold gN; rw [HI.out.2.1.none_end (by have := HN2.out; omega) HX.out, nandW_zero HOK.out.1, if_neg HOK.out.2.1])
        have HAH : Hid (Ahead P Q (i + 1) o) := Lib.hid (HI.out.2.1.left)
        obtain ⟨x1, hx1⟩ : ∃ x1, x.1 = x1 := ⟨_, rfl⟩
        obtain ⟨v, hv⟩ : ∃ v, x.2 = v := ⟨_, rfl⟩
        rw [hx1, hv] at HGN
        have hx2 := hv
        rw [hx1] at f1
        rw [hx2] at f2
        clear hx
        subst q2
        go_wp2_with (at_builtin; refine wpList_append (R.length + 1) (U (R.map (·.1)) ++ U [x1]) rfl _ _ _ _ rfl slIdx rfl (HI.out.1.idx.keep (S := fun _ => False) (by repeat (first | exact Only.refl _ _ | apply Only.alloc | apply Only.drew)) (fun _ _ => id)) rfl (Src.row (size := 1) (cs := #[.int .u64 (x1 : Int)]) (t := 34) (fr := (0, 0)) Tryz.underlying92 (by exact heap_alloc_new _ _) 1 1 rfl (by intro u hu; simp at hu; subst hu; rfl)) rfl rfl (by unfold maxLen; omega) (by omega) ?_)
        intro ai2 ci2 w2 hG1
        have hmid := HI.out.1.mid (X := [(x1, v)]) (m := 1) hG1
        have s3 := H1.out.still hmid.2
        have g0 := s3.c0
        rw [HN1.out] at g0
        obtain ⟨_, _, q5, q6, hc5⟩ := s3.at (by have := HN1.out; omega)
        cases q1.symm.trans q5
        have g2 := (hc5 i x HX.out).1
        rw [hx2] at g2
        clear hc5 q5 q6
        have HM2 := Lib.hid hmid
        have HG1 := Lib.hid hG1
        clear hmid hG1 s3 hx1 hv hx2
        subst q1
        go_wp2_with (at_builtin; refine wpList_append (R.length + 1) (U (R.map (·.2)) ++ U [v]) rfl _ _ _ _ rfl slBl rfl (HM2.out.1.keep (S := fun _ => False) (by repeat (first | exact Only.refl _ _ | apply Only.alloc | apply Only.drew)) (fun _ _ => id)) rfl (Src.row (size := 1) (cs := #[.int .u64 (v : Int)]) (t := 74) (fr := (0, 0)) Tryz.underlying91 (by exact heap_alloc_new _ _) 1 1 rfl (by intro u hu; simp at hu; subst hu; rfl)) rfl rfl (by unfold maxLen; omega) (by omega) ?_)
        intro ab2 cb2 w3 hG2
        have HNX : Hid (Prs w w3 ab2 cb2 ai2 ci2 (R ++ [(x1, v)]) ∧ Ahead P Q (i + 1) o ∧ R ++ [(x1, v)] = nandP (P.take (i + 1)) Q) := Lib.hid ⟨HI.out.1.push (X := [(x1, v)]) rfl HG1.out hG2, HAH.out, by rw [nandP_snoc HX.out, ← HI.out.2.2, HGN.out]; rfl⟩
        clear hG2 HG1 HM2
        go_wp2_with fail
        go_roundw
        case rel => exact ⟨i + 1, o, R ++ [(x1, v)], ab2, cb2, ai2, ci2, by omega, by omega, by rw [R_push]; omega, by rw [R_push], by rw [R_push], by go_num, by go_num, HNX⟩
        case measure => simp [intOf]; omega
      · have hon' : ((o : Int) == (n2 : Int)) = false := by rw [beq_eq_false_iff_ne]; omega
        have ho1 : (o : Int) < (n2 : Int) := by omega
        obtain ⟨bb2, ii2, q3, q4, hc2⟩ := s2.out.at (by have := HN2.out; omega)
        obtain ⟨y, hy⟩ : ∃ y, Q[o]? = some y := ⟨Q[o]'(by have := HN2.out; omega), List.getElem?_eq_getElem _⟩
        have t2 := (hc2 o y hy).1
        have t1 := (hc2 o y hy).2
        have e0 := s2.out.c0
        rw [HN2.out] at e0
        have HY := Lib.hid hy
        have HOKY := Lib.hid (H2.out.ok y (List.mem_of_getElem? hy))
        clear hc2
        rcases Nat.lt_trichotomy x.1 y.1 with hlt | heq | hgt
        · have hlt1 : ¬ (y.1 : Int) < (x.1 : Int) := by omega
          have hlt2 : (x.1 : Int) < (y.1 : Int) := by omega
          have HGN : Hid (gN Q x = some (x.1, x.2)) := Lib.hid (by unfold gN; rw [HI.out.2.1.none_gap H2.out.asc HX.out HY.out hlt, nandW_zero HOK.out.1, if_neg HOK.out.2.1])
          have HAH : Hid (Ahead P Q (i + 1) o) := Lib.hid (HI.out.2.1.left)
          obtain ⟨x1, hx1⟩ : ∃ x1, x.1 = x1 := ⟨_, rfl⟩
          obtain ⟨v, hv⟩ : ∃ v, x.2 = v := ⟨_, rfl⟩
          rw [hx1, hv] at HGN
          have hx2 := hv
          obtain ⟨y1, hy1⟩ : ∃ y1, y.1 = y1 := ⟨_, rfl⟩
          rw [hx1] at f1 hlt1 hlt2
          rw [hy1] at t1 hlt1 hlt2
          subst q4
          clear hy hy1 hlt
          rw [hx2] at f2
          clear hx
          subst q2
          go_wp2_with (at_builtin; refine wpList_append (R.length + 1) (U (R.map (·.1)) ++ U [x1]) rfl _ _ _ _ rfl slIdx rfl (HI.out.1.idx.keep (S := fun _ => False) (by repeat (first | exact Only.refl _ _ | apply Only.alloc | apply Only.drew)) (fun _ _ => id)) rfl (Src.row (size := 1) (cs := #[.int .u64 (x1 : Int)]) (t := 34) (fr := (0, 0)) Tryz.underlying92 (by exact heap_alloc_new _ _) 1 1 rfl (by intro u hu; simp at hu; subst hu; rfl)) rfl rfl (by unfold maxLen; omega) (by omega) ?_)
          intro ai2 ci2 w2 hG1
          have hmid := HI.out.1.mid (X := [(x1, v)]) (m := 1) hG1
          have s3 := H1.out.still hmid.2
          have g0 := s3.c0
          rw [HN1.out] at g0
          obtain ⟨_, _, q5, q6, hc5⟩ := s3.at (by have := HN1.out; omega)
          cases q1.symm.trans q5
          have g2 := (hc5 i x HX.out).1
          rw [hx2] at g2
          clear hc5 q5 q6
          have HM2 := Lib.hid hmid
          have HG1 := Lib.hid hG1
          clear hmid hG1 s3 hx1 hv hx2
          subst q1
          go_wp2_with (at_builtin; refine wpList_append (R.length + 1) (U (R.map (·.2)) ++ U [v]) rfl _ _ _ _ rfl slBl rfl (HM2.out.1.keep (S := fun _ => False) (by repeat (first | exact Only.refl _ _ | apply Only.alloc | apply Only.drew)) (fun _ _ => id)) rfl (Src.row (size := 1) (cs := #[.int .u64 (v : Int)]) (t := 74) (fr := (0, 0)) Tryz.underlying91 (by exact heap_alloc_new _ _) 1 1 rfl (by intro u hu; simp at hu; subst hu; rfl)) rfl rfl (by unfold maxLen; omega) (by omega) ?_)
          intro ab2 cb2 w3 hG2
          have HNX : Hid (Prs w w3 ab2 cb2 ai2 ci2 (R ++ [(x1, v)]) ∧ Ahead P Q (i + 1) o ∧ R ++ [(x1, v)] = nandP (P.take (i + 1)) Q) := Lib.hid ⟨HI.out.1.push (X := [(x1, v)]) rfl HG1.out hG2, HAH.out, by rw [nandP_snoc HX.out, ← HI.out.2.2, HGN.out]; rfl⟩
          clear hG2 HG1 HM2
          go_wp2_with fail
          go_roundw
          case rel => exact ⟨i + 1, o, R ++ [(x1, v)], ab2, cb2, ai2, ci2, by omega, by omega, by rw [R_push]; omega, by rw [R_push], by rw [R_push], by go_num, by go_num, HNX⟩
          case measure => simp [intOf]; omega
        · have hlt1 : ¬ (x.1 : Int) < (x.1 : Int) := by omega
          have HWQ : Hid (wd Q x.1 = y.2) := Lib.hid (wd_mem H2.out.asc (j := x.1) (b := y.2) (by rw [heq]; exact List.mem_of_getElem? HY.out))
          by_cases h0 : nandW x.2 y.2 = 0
          · have HGN : Hid (gN Q x = none) := Lib.hid (by unfold gN; rw [HWQ.out, if_pos h0])
            have HNX : Hid (Prs w wr ab cb ai ci R ∧ Ahead P Q (i + 1) (o + 1) ∧ R = nandP (P.take (i + 1)) Q) := Lib.hid ⟨HI.out.1, HI.out.2.1.both H1.out.asc HX.out HY.out heq.symm, by rw [nandP_snoc HX.out, ← HI.out.2.2, HGN.out]; simp⟩
            have HOP : Hid (∀ wx, Calls Tryz.prog 94 #[.int .u64 (x.2 : Int), .int .u64 (y.2 : Int)] wx fun e w' => e = .returned (.int .u64 0) ∧ w' = wx) := Lib.hid (fun wx => by have := nandWc _ _ HOK.out.1 HOKY.out.1 wx; rw [h0] at this; exact this)
            obtain ⟨x1, hx1⟩ : ∃ x1, x.1 = x1 := ⟨_, rfl⟩
            obtain ⟨x2, hx2⟩ : ∃ x2, x.2 = x2 := ⟨_, rfl⟩
            obtain ⟨y2, hy2⟩ : ∃ y2, y.2 = y2 := ⟨_, rfl⟩
            rw [hx2, hy2] at HOP
            rw [hx2] at f2
            rw [hy2] at t2
            rw [← heq, hx1] at t1
            rw [hx1] at f1 hlt1
            subst q1
            subst q2
            subst q3
            subst q4
            clear hx hy hx2 hy2 hx1 h0 heq
            go_wp2_with fail
            refine wp_region_still_tail 15 (by kernel_rfl) (by kernel_rfl) ?_
            simp only [List.take_succ_cons, List.take_zero, List.drop_succ_cons, List.drop_zero]
            repeat still_step
            still_call (HOP.out _)
            repeat still_step
            refine wpStill_nil ?_
            go_wp2_with fail
            go_roundw
            case rel => exact ⟨i + 1, o + 1, R, ab, cb, ai, ci, by omega, by omega, by omega, rfl, rfl, by go_num, by go_num, Lib.hid ⟨HNX.out.1.still ((Only.refl _ _).drew), HNX.out.2⟩⟩
            case measure => simp [intOf]; omega
          · have HGN : Hid (gN Q x = some (x.1, nandW x.2 y.2)) := Lib.hid (by unfold gN; rw [HWQ.out, if_neg h0])
            have HAH : Hid (Ahead P Q (i + 1) (o + 1)) := Lib.hid (HI.out.2.1.both H1.out.asc HX.out HY.out heq.symm)
            obtain ⟨x1, hx1⟩ : ∃ x1, x.1 = x1 := ⟨_, rfl⟩
            obtain ⟨v, hv⟩ : ∃ v, nandW x.2 y.2 = v := ⟨_, rfl⟩
            rw [hx1, hv] at HGN
            have HPD : Hid (Prs w wr.drew ab cb ai ci R) := Lib.hid (HI.out.1.still ((Only.refl _ _).drew))
            have HOP : Hid (∀ wx, Calls Tryz.prog 94 #[.int .u64 (x.2 : Int), .int .u64 (y.2 : Int)] wx fun e w' => e = .returned (.int .u64 (v : Int)) ∧ w' = wx) := Lib.hid (fun wx => by rw [← hv]; exact nandWc _ _ HOK.out.1 HOKY.out.1 wx)
            have hv0 : 0 < v := by omega
            have hv0' : (0 : Int) < (v : Int) := by omega
            obtain ⟨x2, hx2⟩ : ∃ x2, x.2 = x2 := ⟨_, rfl⟩
            obtain ⟨y2, hy2⟩ : ∃ y2, y.2 = y2 := ⟨_, rfl⟩
            obtain ⟨y1, hy1⟩ : ∃ y1, y.1 = y1 := ⟨_, rfl⟩
            rw [hx2, hy2] at HOP
            rw [hx2] at f2
            rw [hy2] at t2
            rw [← heq, hx1] at t1
            rw [hx1] at f1 hlt1
            subst q1
            subst q2
            subst q3
            subst q4
            clear hx hy hv hx2 hy2 hy1 hx1 h0 heq
            go_wp2_with fail
            refine wp_region_still_tail 15 (by kernel_rfl) (by kernel_rfl) ?_
            simp only [List.take_succ_cons, List.take_zero, List.drop_succ_cons, List.drop_zero]
            repeat still_step
            still_call (HOP.out _)
            repeat still_step
            refine wpStill_nil ?_
            go_wp2_with (at_builtin; refine wpList_append (R.length + 1) (U (R.map (·.1)) ++ U [x1]) rfl _ _ _ _ rfl slIdx rfl (HI.out.1.idx.keep (S := fun _ => False) (by repeat (first | exact Only.refl _ _ | apply Only.alloc | apply Only.drew)) (fun _ _ => id)) rfl (Src.row (size := 1) (cs := #[.int .u64 (x1 : Int)]) (t := 34) (fr := (0, 0)) Tryz.underlying92 (by exact heap_alloc_new _ _) 1 1 rfl (by intro u hu; simp at hu; subst hu; rfl)) rfl rfl (by unfold maxLen; omega) (by omega) ?_)
            intro ai2 ci2 w2 hG1
            have hmid := HPD.out.mid (o := .cells #[.int .u64 (x1 : Int)] 34) (X := [(x1, v)]) (m := 1) hG1
            have s3 := H1.out.still hmid.2

            have HM2 := Lib.hid hmid
            have HG1 := Lib.hid hG1
            clear hmid hG1 s3
            go_wp2_with (at_builtin; refine wpList_append (R.length + 1) (U (R.map (·.2)) ++ U [v]) rfl _ _ _ _ rfl slBl rfl (HM2.out.1.keep (S := fun _ => False) (by repeat (first | exact Only.refl _ _ | apply Only.alloc | apply Only.drew)) (fun _ _ => id)) rfl (Src.row (size := 1) (cs := #[.int .u64 (v : Int)]) (t := 74) (fr := (0, 0)) Tryz.underlying91 (by exact heap_alloc_new _ _) 1 1 rfl (by intro u hu; simp at hu; subst hu; rfl)) rfl rfl (by unfold maxLen; omega) (by omega) ?_)
            intro ab2 cb2 w3 hG2
            have HNX : Hid (Prs w w3 ab2 cb2 ai2 ci2 (R ++ [(x1, v)]) ∧ Ahead P Q (i + 1) (o + 1) ∧ R ++ [(x1, v)] = nandP (P.take (i + 1)) Q) := Lib.hid ⟨HPD.out.push (o1 := .cells #[.int .u64 (x1 : Int)] 34) (X := [(x1, v)]) rfl HG1.out hG2, HAH.out, by rw [nandP_snoc HX.out, ← HI.out.2.2, HGN.out]; rfl⟩
            clear hG2 HG1 HM2
            go_wp2_with fail
            go_roundw
            case rel => exact ⟨i + 1, (o + 1), R ++ [(x1, v)], ab2, cb2, ai2, ci2, by omega, by omega, by rw [R_push]; omega, by rw [R_push], by rw [R_push], by go_num, by go_num, HNX⟩
            case measure => simp [intOf]; omega
        · have hgt' : (y.1 : Int) < (x.1 : Int) := by omega
          have HNX : Hid (Prs w wr ab cb ai ci R ∧ Ahead P Q i (o + 1) ∧ R = nandP (P.take i) Q) := Lib.hid ⟨HI.out.1, HI.out.2.1.right H1.out.asc HX.out HY.out hgt, HI.out.2.2⟩
          obtain ⟨x1, hx1⟩ : ∃ x1, x.1 = x1 := ⟨_, rfl⟩
          obtain ⟨y1, hy1⟩ : ∃ y1, y.1 = y1 := ⟨_, rfl⟩
          rw [hx1] at f1 hgt'
          rw [hy1] at t1 hgt'
          subst q2
          subst q4
          clear hx hy hx1 hy1 hgt
          go_wp2_with fail
          go_roundw
          case rel => exact ⟨i, o + 1, R, ab, cb, ai, ci, by omega, by omega, by omega, rfl, rfl, rfl, by go_num, HNX⟩
          case measure => simp [intOf]; omega
end Go.Proofs.YtacjkbljokjdkaaGreat.ba

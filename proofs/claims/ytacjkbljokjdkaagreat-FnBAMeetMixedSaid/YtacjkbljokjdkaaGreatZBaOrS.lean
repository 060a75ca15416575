/-
  Or of two sparse bit arrays; a copy of one.
-/
import Derived.Test.YtacjkbljokjdkaaGreatMH
import Derived.Deep.RegionLaw
namespace Go.Proofs.YtacjkbljokjdkaaGreat.ba
open Go.RowKit Go.Proofs.YtacjkbljokjdkaaGreat.base Go.Proofs.YtacjkbljokjdkaaGreat.heap Go.Proofs.YtacjkbljokjdkaaGreat.rows Go.Proofs.YtacjkbljokjdkaaGreat.bit Go.Proofs.YtacjkbljokjdkaaGreat.bs
set_option linter.unusedVariables false
theorem R_push2 {R : List (Nat × Nat)} {x : Nat × Nat} : (R ++ [x]).length = R.length + 1 := by simp
set_option maxRecDepth 100000 in
set_option maxHeartbeats 1600000 in
theorem copyS {w : World} {p cb ci : Nat} {ab ai : Option Addr} {P : List (Nat × Nat)} (h : Sp w p ab cb ai ci P) : Calls Tryz.prog 88 #[.pointer (some ⟨p, 0, none⟩)] w (fun e w' => ∃ p' ab' ai' cb' ci', e = .returned (.pointer (some ⟨p', 0, none⟩)) ∧ Sp w' p' ab' cb' ai' ci' P ∧ Same w w' ∧ ∀ k, Fs p' ab' ai' k → w.heap.size ≤ k) := by
  have H := Lib.hid h
  have c0 := h.c0
  have c1 := h.c1
  have hsm := h.sm
  have b1 := h.idx.bound
  have b3 := h.blk.bound
  have hpl := lt_of_heap h.obj
  obtain ⟨n, HN⟩ : ∃ n, Hid (P.length = n) := ⟨_, Lib.hid rfl⟩
  rw [HN.out] at c0 c1 hsm b1 b3
  have hm1 := make_eq (P := Tryz.prog) (e := 34) (size := 1) (t := 92) (z := .int .u64 0) (bytes := 8) .i64 .i64 Tryz.underlying92 (by kernel_rfl) n (by omega) (by omega)
  have hm2 := make_eq (P := Tryz.prog) (e := 74) (size := 1) (t := 91) (z := .int .u64 0) (bytes := 8) .i64 .i64 Tryz.underlying91 (by kernel_rfl) n (by omega) (by omega)
  have hrb := h.blk.rd
  have hri := h.idx.rd
  rw [HN.out] at hrb hri
  have HRB := Lib.hid hrb
  have HRI := Lib.hid hri
  obtain ⟨g, hg⟩ : ∃ g, w.heap.size = g := ⟨_, rfl⟩
  have HGS : Hid (0 + n ≤ (madeCells #[.int .u64 0] n).size) := Lib.hid (by simp [madeCells])
  have HGN : Hid ((w.alloc (.cells (madeCells #[.int .u64 0] n) 74)).heap[g]? = some (.cells (madeCells #[.int .u64 0] n) 74 (0, 0))) := Lib.hid (heap_alloc_new' w _ g hg.symm)
  have hpne : p ≠ g := by omega
  have c0' : (w.alloc (.cells (madeCells #[.int .u64 0] n) 74)).cell? ⟨p, 0, none⟩ = some (.slice ab n cb) := (((Only.refl (fun _ => False) w).alloc _).cell (p := ⟨p, 0, none⟩) hpl id).trans c0
  clear h hrb hri
  go_enter Tryz.func88, Tryz.ntmps88
  go_wp2_with (with_reducible refine wpList_copy n rfl _ _ _ _ rfl slBl rfl HGN.out rfl (HRB.out.keep ((Only.refl _ _).alloc _) (fun _ _ => id)) (Nat.min_self n).symm HGS.out ?_)
  intro w2 hb2 ho2
  have HG : Hid (Own 74 1 w2 (some ⟨g, 0, none⟩) n n (U (P.map (·.2))) ∧ Same w w2) := Lib.hid (by
    have h1 := Own.of_block (e := 74) (size := 1) HGN.out n n (Nat.le_refl _) (by unfold maxLen; omega) (by simp [madeCells]) (by intro u hu; exact U_one (List.replicate n 0) u (by rw [← U_zeros]; exact List.mem_of_mem_take hu))
    have hb3 : w2.heap[g]? = some (.cells ((madeCells #[.int .u64 0] n).toList.take 0 ++ (U (P.map (·.2))).take n ++ (madeCells #[.int .u64 0] n).toList.drop (0 + n)).toArray 74 (0, 0)) := by rw [hb2]; simp
    have h2 := Own.over (off := 0) (ys := (U (P.map (·.2))).take n) (k := n) h1 HGN.out hb3 (by rw [List.length_take, U_len, List.length_map, HN.out]; omega) (by omega) (fun u hu => U_one _ u (List.mem_of_mem_take hu))
    rw [List.take_zero, List.nil_append, List.take_of_length_le (by rw [U_len, List.length_map, HN.out]; omega)] at h2
    exact ⟨h2, new_only (S := fun j => j = g) ((Only.refl _ _).alloc _) ho2 (fun j hj => by omega)⟩)
  have d1 : w2.cell? ⟨p, 1, none⟩ = some (.slice ai n ci) := (HG.out.2.cell (p := ⟨p, 1, none⟩) hpl id).trans c1
  have HGL : Hid (w.heap.size ≤ g) := Lib.hid (by omega)
  obtain ⟨g2, hg2⟩ : ∃ g2, w2.heap.size = g2 := ⟨_, rfl⟩
  have hz2 : w.heap.size ≤ w2.heap.size := HG.out.2.size
  have HGN2 : Hid ((w2.alloc (.cells (madeCells #[.int .u64 0] n) 34)).heap[g2]? = some (.cells (madeCells #[.int .u64 0] n) 34 (0, 0))) := Lib.hid (heap_alloc_new' w2 _ g2 hg2.symm)
  have d1' : (w2.alloc (.cells (madeCells #[.int .u64 0] n) 34)).cell? ⟨p, 1, none⟩ = some (.slice ai n ci) := (((Only.refl (fun _ => False) w2).alloc _).cell (p := ⟨p, 1, none⟩) (by show p < w2.heap.size; omega) id).trans d1
  have hpne2 : p ≠ g2 := by omega
  clear hb2 ho2 c0' c0 c1 hm2 hg
  go_wp2_with (with_reducible refine wpList_copy n rfl _ _ _ _ rfl slIdx rfl HGN2.out rfl ((HRI.out.keep HG.out.2 (fun _ _ => id)).keep ((Only.refl _ _).alloc _) (fun _ _ => id)) (Nat.min_self n).symm HGS.out ?_)
  intro w3 hb3 ho3
  have HG3 : Hid (Own 34 1 w3 (some ⟨g2, 0, none⟩) n n (U (P.map (·.1))) ∧ Same w2 w3) := Lib.hid (by
    have h1 := Own.of_block (e := 34) (size := 1) HGN2.out n n (Nat.le_refl _) (by unfold maxLen; omega) (by simp [madeCells]) (by intro u hu; exact U_one (List.replicate n 0) u (by rw [← U_zeros]; exact List.mem_of_mem_take hu))
    have hb4 : w3.heap[g2]? = some (.cells ((madeCells #[.int .u64 0] n).toList.take 0 ++ (U (P.map (·.1))).take n ++ (madeCells #[.int .u64 0] n).toList.drop (0 + n)).toArray 34 (0, 0)) := by rw [hb3]; simp
    have h2 := Own.over (off := 0) (ys := (U (P.map (·.1))).take n) (k := n) h1 HGN2.out hb4 (by rw [List.length_take, U_len, List.length_map, HN.out]; omega) (by omega) (fun u hu => U_one _ u (List.mem_of_mem_take hu))
    rw [List.take_zero, List.nil_append, List.take_of_length_le (by rw [U_len, List.length_map, HN.out]; omega)] at h2
    exact ⟨h2, new_only (S := fun j => j = g2) ((Only.refl _ _).alloc _) ho3 (fun j hj => by omega)⟩)
  have HZ : Hid (g < w2.heap.size ∧ g2 < w3.heap.size ∧ w2.heap.size ≤ g2 ∧ w2.heap.size ≤ w3.heap.size ∧ w.heap.size ≤ w2.heap.size) := Lib.hid ⟨HG.out.1.lt g rfl, HG3.out.1.lt g2 rfl, by omega, HG3.out.2.size, hz2⟩
  clear hb3 ho3 d1 d1' hm1 hg2 hz2 hpne hpne2 hpl
  go_wp2_with fail
  go_ret
  have hA := (Only.refl (fun _ => False) w3).alloc (.cells #[.slice (some ⟨g, 0, none⟩) n n, .slice (some ⟨g2, 0, none⟩) n n] 94)
  refine ⟨w3.heap.size, some ⟨g, 0, none⟩, some ⟨g2, 0, none⟩, n, n, rfl, ⟨by rw [HN.out]; exact heap_alloc_new _ _, by rw [HN.out]; exact (HG.out.1.keep HG3.out.2 (fun _ _ => id)).keep hA (fun _ _ => id), by rw [HN.out]; exact HG3.out.1.keep hA (fun _ _ => id), H.out.asc, H.out.ok, fun e => ?_, fun e => ?_, fun k h1 h2 => ?_, H.out.sm⟩, Same.trans (Same.trans HG.out.2 HG3.out.2) hA, ?_⟩
  · have : g = w3.heap.size := e
    have := HZ.out; omega
  · have : g2 = w3.heap.size := e
    have := HZ.out; omega
  · have a1 : g = k := h1
    have a2 : g2 = k := h2
    have := HZ.out; omega
  · have hz := HZ.out
    have hgl := HGL.out
    rintro k (rfl | hk | hk)
    · omega
    · have : g = k := hk
      omega
    · have : g2 = k := hk
      omega
set_option maxRecDepth 100000 in
set_option maxHeartbeats 1600000 in
theorem maxI2 (g c x y : Nat) (w : World) (h0 : w.cell? ⟨g, 0, none⟩ = some (.int .i64 (x : Int))) (h1 : w.cell? ⟨g, 1, none⟩ = some (.int .i64 (y : Int))) :
    Calls Tryz.prog 124 #[.slice (some ⟨g, 0, none⟩) 2 c] w fun e w' => e = .returned (.int .i64 ((max x y : Nat) : Int)) ∧ w = w' := by
  go_enter Tryz.func124, Tryz.ntmps124
  go_wp2_with fail
  go_loop [3, 4] (fun m i => (i = .int .i64 1 ∧ m = .int .i64 (x : Int)) ∨ (i = .int .i64 2 ∧ m = .int .i64 ((max x y : Nat) : Int))) (fun _ i => (2 - intOf i).toNat)
  case atStart => exact .inl ⟨rfl, rfl⟩
  case round =>
    rcases hrel with ⟨rfl, rfl⟩ | ⟨rfl, rfl⟩
    · by_cases hxy : x < y
      · have hxy' : (x : Int) < (y : Int) := by omega
        have hm : max x y = y := by omega
        rw [hm]
        clear hm
        go_wp2_with fail
        go_round
        case rel => exact .inr ⟨rfl, rfl⟩
        case measure => simp [intOf]
      · have hxy' : ¬ (x : Int) < (y : Int) := by omega
        have hm : max x y = x := by omega
        rw [hm]
        clear hm
        go_wp2_with fail
        go_round
        case rel => exact .inr ⟨rfl, rfl⟩
        case measure => simp [intOf]
    · go_wp2_with fail
      go_ret
      exact ⟨rfl, rfl⟩
theorem Prs.base {w w0 wr : World} {ab ai : Option Addr} {cb ci : Nat} {R : List (Nat × Nat)} (h : Prs w0 wr ab cb ai ci R) (hs : Same w w0) : Prs w wr ab cb ai ci R :=
  ⟨Same.trans hs h.same, h.blk, h.idx, fun k hk => Nat.le_trans hs.size (h.new k hk), h.bi⟩
section
variable {w wr wa wb w2 w3 : World} {ab ai ab2 ai2 : Option Addr} {cb ci cb2 ci2 : Nat} {R X : List (Nat × Nat)} {m : Nat}
theorem Prs.mid2 (h : Prs w wr ab cb ai ci R) (hs1 : Same wr wa) (hG1 : Grew 34 1 wa w2 ai ai2 m (R.length + m) ci ci2 (U (R.map (·.1)) ++ U (X.map (·.1)))) : Own 74 1 w2 ab R.length cb (U (R.map (·.2))) ∧ Same w w2 :=
  ⟨(h.blk.keep hs1 (fun _ _ => id)).keep hG1.only (fun k hk => h.bi k hk), new_only (Same.trans h.same hs1) hG1.only (fun k hk => h.new k (.inr hk))⟩
theorem Prs.push2 (h : Prs w wr ab cb ai ci R) (hm : X.length = m) (hs1 : Same wr wa) (hG1 : Grew 34 1 wa w2 ai ai2 m (R.length + m) ci ci2 (U (R.map (·.1)) ++ U (X.map (·.1))))
    (hs2 : Same w2 wb) (hG2 : Grew 74 1 wb w3 ab ab2 m (R.length + m) cb cb2 (U (R.map (·.2)) ++ U (X.map (·.2)))) : Prs w w3 ab2 cb2 ai2 ci2 (R ++ X) := by
  obtain ⟨m1, m2⟩ := h.mid2 hs1 hG1
  have z1 := h.same.size
  have z2 := m2.size
  have z3 := hs1.size
  have z4 := hs2.size
  have f1 : ∀ k, At ai2 k → w.heap.size ≤ k := fun k hk => by
    rcases hG1.fresh k hk with h1 | h1
    · exact h.new k (.inr h1)
    · omega
  have f2 : ∀ k, At ab2 k → w.heap.size ≤ k := fun k hk => by
    rcases hG2.fresh k hk with h1 | h1
    · exact h.new k (.inl h1)
    · omega
  have l2 := hG1.own.lt
  have lb := h.blk.lt
  have dis : ∀ k, At ab k → ¬ At ai2 k := fun k hk e => by
    rcases hG1.fresh k e with h1 | h1
    · exact h.bi k hk h1
    · have := lb k hk; omega
  have hi := (hG1.own.keep hs2 (fun _ _ => id)).keep hG2.only (fun k hk h2 => dis k h2 hk)
  have e1 : U (R.map (·.1)) ++ U (X.map (·.1)) = U ((R ++ X).map (·.1)) := by simp [U]
  have e2 : U (R.map (·.2)) ++ U (X.map (·.2)) = U ((R ++ X).map (·.2)) := by simp [U]
  have e3 : R.length + m = (R ++ X).length := by rw [List.length_append, hm]
  rw [e1, e3] at hi
  have hb := hG2.own
  rw [e2, e3] at hb
  refine ⟨new_only (Same.trans m2 hs2) hG2.only (fun k hk => h.new k (.inl hk)), hb, hi, fun k hk => hk.elim (f2 k) (f1 k), fun k hk e => ?_⟩
  rcases hG2.fresh k hk with h1 | h1
  · exact dis k h1 e
  · have := l2 k e; omega
end
/-- what the loop leaves -/
def OrDone (w : World) (L : List Nat) (s6 s7 : Value) (wx : World) : Prop := ∃ (R : List (Nat × Nat)) (ab : Option Addr) (cb : Nat) (ai : Option Addr) (ci : Nat), s6 = .slice ai R.length ci ∧ s7 = .slice ab R.length cb ∧ Hid (Prs w wx ab cb ai ci R ∧ Good R ∧ Rep (wd R) L ∧ R.length ≤ 1000000)
set_option maxRecDepth 100000 in
set_option maxHeartbeats 6400000 in
theorem orBothS {w : World} {p1 cb1 ci1 p2 cb2 ci2 : Nat} {ab1 ai1 ab2 ai2 : Option Addr} {P Q : List (Nat × Nat)} {l1 l2 : List Nat} (h1 : Sp w p1 ab1 cb1 ai1 ci1 P) (h2 : Sp w p2 ab2 cb2 ai2 ci2 Q) (r1 : Rep (wd P) l1) (r2 : Rep (wd Q) l2) (z1 : P.length ≠ 0) (z2 : Q.length ≠ 0) (zl : P.length + Q.length ≤ 1000000) :
    Calls Tryz.prog 121 #[.pointer (some ⟨p1, 0, none⟩), .pointer (some ⟨p2, 0, none⟩)] w (NewA ⟨false, 0, orL l1 l2⟩ w) := by
  have H1 := Lib.hid h1
  have H2 := Lib.hid h2
  have HRE : Hid (∀ R, OrInv P Q R P.length Q.length → Rep (wd R) (orL l1 l2)) := Lib.hid (fun R h => h.rep rfl rfl r1 r2)
  have c1 := h1.c1
  have c2 := h2.c1
  have b1 := h1.idx.bound
  have b2 := h2.idx.bound
  have b3 := h1.blk.bound
  have b4 := h2.blk.bound
  generalize orL l1 l2 = L at *
  obtain ⟨n1, HN1⟩ : ∃ n, Hid (P.length = n) := ⟨_, Lib.hid rfl⟩
  obtain ⟨n2, HN2⟩ : ∃ n, Hid (Q.length = n) := ⟨_, Lib.hid rfl⟩
  rw [HN1.out] at c1 b1 b3 z1 zl HRE
  rw [HN2.out] at c2 b2 b4 z2 zl HRE
  obtain ⟨N, HNN⟩ : ∃ N, Hid (max n1 n2 = N) := ⟨_, Lib.hid rfl⟩
  have hN : N ≤ 1000000 := by have := HNN.out; omega
  have hm1 := make0_eq (P := Tryz.prog) (e := 34) (size := 1) (t := 92) (z := .int .u64 0) (bytes := 8) .i64 .i64 Tryz.underlying92 (by kernel_rfl) N (by omega) (by omega)
  have hm2 := make0_eq (P := Tryz.prog) (e := 74) (size := 1) (t := 91) (z := .int .u64 0) (bytes := 8) .i64 .i64 Tryz.underlying91 (by kernel_rfl) N (by omega) (by omega)
  have zz1 : ((n1 : Int) == 0) = false := by rw [beq_eq_false_iff_ne]; omega
  have zz2 : ((n2 : Int) == 0) = false := by rw [beq_eq_false_iff_ne]; omega
  have HMX : Hid (∀ wx g c, wx.cell? ⟨g, 0, none⟩ = some (.int .i64 (n1 : Int)) → wx.cell? ⟨g, 1, none⟩ = some (.int .i64 (n2 : Int)) → Calls Tryz.prog 124 #[.slice (some ⟨g, 0, none⟩) 2 c] wx fun e w' => e = .returned (.int .i64 (N : Int)) ∧ wx = w') := Lib.hid (fun wx g c h1 h2 => by
    have := maxI2 g c n1 n2 wx h1 h2
    rw [HNN.out] at this
    exact this)
  have HP0 : Hid (Prs w (((w.alloc (.cells #[.int .i64 (n1 : Int), .int .i64 (n2 : Int)] 2)).alloc (.cells (madeCells #[.int .u64 0] N) 34)).alloc (.cells (madeCells #[.int .u64 0] N) 74)).drew (some ⟨w.heap.size + 1 + 1, 0, none⟩) N (some ⟨w.heap.size + 1, 0, none⟩) N []) := Lib.hid (by
    have := ((prs_new (w.alloc (.cells #[.int .i64 (n1 : Int), .int .i64 (n2 : Int)] 2)) N hN).base ((Only.refl (fun _ => False) w).alloc _)).still ((Only.refl _ _).drew)
    rw [World.size_alloc] at this
    exact this)
  clear h1 h2 r1 r2
  go_enter Tryz.func121, Tryz.ntmps121
  go_wp2_with fail
  refine wp_region_still_tail 10 (by kernel_rfl) (by kernel_rfl) ?_
  simp only [List.take_succ_cons, List.take_zero, List.drop_succ_cons, List.drop_zero]
  repeat still_step
  refine wpStill_nil ?_
  go_wp2_with (go_at_call 124; refine (HMX.out _ _ _ ?_ ?_).mono ?_)
  · exact block_cell (heap_alloc_new w (.cells #[.int .i64 (n1 : Int), .int .i64 (n2 : Int)] 2)) rfl
  · exact block_cell (heap_alloc_new w (.cells #[.int .i64 (n1 : Int), .int .i64 (n2 : Int)] 2)) rfl
  rintro e w2 ⟨rfl, rfl⟩
  clear HMX c1 c2 zz1 zz2
  go_upto_block 0 with fail
  clear hm1 hm2
  go_cut [6, 7] (fun s6 s7 wx => OrDone w L s6 s7 wx)
  case first =>
    go_wp2_with fail
    go_loopw [6, 7, 8, 9] (fun s6 s7 s8 s9 wr => ∃ (i o : Nat) (R : List (Nat × Nat)) (ab : Option Addr) (cb : Nat) (ai : Option Addr) (ci : Nat), i ≤ n1 ∧ o ≤ n2 ∧ R.length ≤ i + o ∧ s6 = .slice ai R.length ci ∧ s7 = .slice ab R.length cb ∧ s8 = .int .i64 (i : Int) ∧ s9 = .int .i64 (o : Int) ∧ Hid (Prs w wr ab cb ai ci R ∧ OrInv P Q R i o)) (fun _ _ s8 s9 _ => (n1 - (intOf s8).toNat) + (n2 - (intOf s9).toNat))
    case atStart => exact ⟨0, 0, [], _, _, _, _, Nat.zero_le _, Nat.zero_le _, Nat.le_refl _, rfl, rfl, rfl, rfl, Lib.hid ⟨HP0.out, OrInv.nil _ _⟩⟩
    case round =>
      obtain ⟨i, o, R, ab, cb, ai, ci, hi, ho, hr, rfl, rfl, rfl, rfl, HI⟩ := hrel
      clear HP0
      have s1 := Lib.hid (H1.out.still HI.out.1.same)
      have s2 := Lib.hid (H2.out.still HI.out.1.same)
      have d1 := s1.out.c1
      have e1 := s2.out.c1
      rw [HN1.out] at d1
      rw [HN2.out] at e1
      have d0 := s1.out.c0
      rw [HN1.out] at d0
      have e0 := s2.out.c0
      rw [HN2.out] at e0
      have hi0 : (0 : Int) ≤ (i : Int) := by omega
      have ho0 : (0 : Int) ≤ (o : Int) := by omega
      have bb := HI.out.1.blk.bound
      have bi := HI.out.1.idx.bound
      by_cases hin : i = n1
      · by_cases hon : o = n2
        · subst hin
          subst hon
          have HF : Hid (OrInv P Q R P.length Q.length) := Lib.hid (by have := HI.out.2; rw [← HN1.out, ← HN2.out] at this; exact this)
          have HFIN : Hid (Prs w wr ab cb ai ci R ∧ Good R ∧ Rep (wd R) L ∧ R.length ≤ 1000000) := Lib.hid ⟨HI.out.1, HI.out.2.good, HRE.out R (by have := HF.out; rw [HN1.out, HN2.out] at this; exact this), by omega⟩
          go_wp2_with fail
          go_meet
          exact ⟨R, ab, cb, ai, ci, rfl, rfl, HFIN⟩
        · subst hin
          have hon' : ((o : Int) == (n2 : Int)) = false := by rw [beq_eq_false_iff_ne]; omega
          obtain ⟨bx, ix, q1, q2, hcc⟩ := s2.out.at (by have := HN2.out; omega)
          have hrb := s2.out.blk.rd
          have hri := s2.out.idx.rd
          rw [HN2.out, q1] at hrb
          rw [HN2.out, q2] at hri
          obtain ⟨m, HMM⟩ : ∃ m, Hid (n2 - o = m) := ⟨_, Lib.hid rfl⟩
          have hm1 : m ≤ n2 ∧ o + m = n2 := by have := HMM.out; omega
          have hdb := hrb.drop (k := o) (by omega)
          have hdi := hri.drop (k := o) (by omega)
          rw [HMM.out, Nat.mul_one, Nat.zero_add] at hdb hdi
          have HXL : Hid ((Q.drop o).length = m) := Lib.hid (by rw [List.length_drop, HN2.out]; exact HMM.out)
          have e5 : (U (Q.map (·.2))).drop o = U ((Q.drop o).map (·.2)) := by simp [U, List.map_drop]
          have e6 : (U (Q.map (·.1))).drop o = U ((Q.drop o).map (·.1)) := by simp [U, List.map_drop]
          rw [e5] at hdb
          rw [e6] at hdi
          have HDB := Lib.hid hdb
          have HDI := Lib.hid hdi
          have hkc1 : ¬ cb2 = o := by omega
          have hkc2 : ¬ ci2 = o := by omega
          have hk5 : (o : Int) ≤ (cb2 : Int) := by omega
          have hk6 : (o : Int) ≤ (ci2 : Int) := by omega
          have hk7 : (o : Int) ≤ (n2 : Int) := by omega
          subst q1
          subst q2
          clear hcc hrb hri e5 e6 hdb hdi
          go_wp2_with (at_builtin; refine wpList_append (R.length + m) (U (R.map (·.1)) ++ U ((Q.drop o).map (·.1))) rfl _ _ _ _ rfl slIdx rfl HI.out.1.idx rfl (by rw [HMM.out]; exact HDI.out.src Tryz.underlying92) rfl rfl (by unfold maxLen; omega) (by omega) ?_)
          intro ai3 ci3 w3 hG1
          rw [← List.map_drop] at hG1
          have hmid := HI.out.1.mid2 (X := Q.drop o) (Only.refl _ _) hG1
          have s3 := H2.out.still hmid.2
          have g0 := s3.c0
          rw [HN2.out] at g0
          have HRB3 : Hid (Rd 1 w3 (some ⟨bx, o, none⟩) m (cb2 - o) (U ((Q.drop o).map (·.2)))) := Lib.hid (by
            have h7 := s3.blk.rd
            rw [HN2.out] at h7
            have h8 := h7.drop (k := o) (by omega)
            rw [HMM.out, Nat.mul_one, Nat.zero_add] at h8
            have e5 : (U (Q.map (·.2))).drop o = U ((Q.drop o).map (·.2)) := by simp [U, List.map_drop]
            rw [e5] at h8
            exact h8)
          have HM2 := Lib.hid hmid
          have HG1 := Lib.hid hG1
          clear hmid hG1 s3
          go_wp2_with (at_builtin; refine wpList_append (R.length + m) (U (R.map (·.2)) ++ U ((Q.drop o).map (·.2))) rfl _ _ _ _ rfl slBl rfl HM2.out.1 rfl (by rw [HMM.out]; exact HRB3.out.src Tryz.underlying91) rfl rfl (by unfold maxLen; omega) (by omega) ?_)
          intro ab3 cb3 w4 hG2
          rw [← List.map_drop] at hG2
          have HFIN : Hid (Prs w w4 ab3 cb3 ai3 ci3 (R ++ Q.drop o) ∧ Good (R ++ Q.drop o) ∧ Rep (wd (R ++ Q.drop o)) L ∧ (R ++ Q.drop o).length ≤ 1000000) := Lib.hid (by
            have hinv := (HI.out.2.swap.rest H2.out.good (by have := HN1.out; omega)).swap
            refine ⟨HI.out.1.push2 HXL.out (Only.refl _ _) HG1.out (Only.refl _ _) hG2, hinv.good, HRE.out _ ?_, by rw [List.length_append, HXL.out]; omega⟩
            have e1 := HN1.out
            have e2 := HN2.out
            rw [e2] at hinv; exact hinv)
          have HLN : Hid ((R ++ Q.drop o).length = R.length + m) := Lib.hid (by rw [List.length_append, HXL.out])
          clear hG2 HG1 HM2 HRB3
          go_wp2_with fail
          go_meet
          exact ⟨R ++ Q.drop o, ab3, cb3, ai3, ci3, by rw [HLN.out], by rw [HLN.out], HFIN⟩
      · have hin' : ((i : Int) == (n1 : Int)) = false := by rw [beq_eq_false_iff_ne]; omega
        have hi1 : (i : Int) < (n1 : Int) := by omega
        by_cases hon : o = n2
        · subst hon
          obtain ⟨bx, ix, q1, q2, hcc⟩ := s1.out.at (by have := HN1.out; omega)
          have hrb := s1.out.blk.rd
          have hri := s1.out.idx.rd
          rw [HN1.out, q1] at hrb
          rw [HN1.out, q2] at hri
          obtain ⟨m, HMM⟩ : ∃ m, Hid (n1 - i = m) := ⟨_, Lib.hid rfl⟩
          have hm1 : m ≤ n1 ∧ i + m = n1 := by have := HMM.out; omega
          have hdb := hrb.drop (k := i) (by omega)
          have hdi := hri.drop (k := i) (by omega)
          rw [HMM.out, Nat.mul_one, Nat.zero_add] at hdb hdi
          have HXL : Hid ((P.drop i).length = m) := Lib.hid (by rw [List.length_drop, HN1.out]; exact HMM.out)
          have e5 : (U (P.map (·.2))).drop i = U ((P.drop i).map (·.2)) := by simp [U, List.map_drop]
          have e6 : (U (P.map (·.1))).drop i = U ((P.drop i).map (·.1)) := by simp [U, List.map_drop]
          rw [e5] at hdb
          rw [e6] at hdi
          have HDB := Lib.hid hdb
          have HDI := Lib.hid hdi
          have hkc1 : ¬ cb1 = i := by omega
          have hkc2 : ¬ ci1 = i := by omega
          have hk5 : (i : Int) ≤ (cb1 : Int) := by omega
          have hk6 : (i : Int) ≤ (ci1 : Int) := by omega
          have hk7 : (i : Int) ≤ (n1 : Int) := by omega
          subst q1
          subst q2
          clear hcc hrb hri e5 e6 hdb hdi
          go_wp2_with (at_builtin; refine wpList_append (R.length + m) (U (R.map (·.1)) ++ U ((P.drop i).map (·.1))) rfl _ _ _ _ rfl slIdx rfl HI.out.1.idx rfl (by rw [HMM.out]; exact HDI.out.src Tryz.underlying92) rfl rfl (by unfold maxLen; omega) (by omega) ?_)
          intro ai3 ci3 w3 hG1
          rw [← List.map_drop] at hG1
          have hmid := HI.out.1.mid2 (X := P.drop i) (Only.refl _ _) hG1
          have s3 := H1.out.still hmid.2
          have g0 := s3.c0
          rw [HN1.out] at g0
          have HRB3 : Hid (Rd 1 w3 (some ⟨bx, i, none⟩) m (cb1 - i) (U ((P.drop i).map (·.2)))) := Lib.hid (by
            have h7 := s3.blk.rd
            rw [HN1.out] at h7
            have h8 := h7.drop (k := i) (by omega)
            rw [HMM.out, Nat.mul_one, Nat.zero_add] at h8
            have e5 : (U (P.map (·.2))).drop i = U ((P.drop i).map (·.2)) := by simp [U, List.map_drop]
            rw [e5] at h8
            exact h8)
          have HM2 := Lib.hid hmid
          have HG1 := Lib.hid hG1
          clear hmid hG1 s3
          go_wp2_with (at_builtin; refine wpList_append (R.length + m) (U (R.map (·.2)) ++ U ((P.drop i).map (·.2))) rfl _ _ _ _ rfl slBl rfl HM2.out.1 rfl (by rw [HMM.out]; exact HRB3.out.src Tryz.underlying91) rfl rfl (by unfold maxLen; omega) (by omega) ?_)
          intro ab3 cb3 w4 hG2
          rw [← List.map_drop] at hG2
          have HFIN : Hid (Prs w w4 ab3 cb3 ai3 ci3 (R ++ P.drop i) ∧ Good (R ++ P.drop i) ∧ Rep (wd (R ++ P.drop i)) L ∧ (R ++ P.drop i).length ≤ 1000000) := Lib.hid (by
            have hinv := (HI.out.2.rest H1.out.good (by have := HN2.out; omega))
            refine ⟨HI.out.1.push2 HXL.out (Only.refl _ _) HG1.out (Only.refl _ _) hG2, hinv.good, HRE.out _ ?_, by rw [List.length_append, HXL.out]; omega⟩
            have e1 := HN1.out
            have e2 := HN2.out
            rw [e1] at hinv; exact hinv)
          have HLN : Hid ((R ++ P.drop i).length = R.length + m) := Lib.hid (by rw [List.length_append, HXL.out])
          clear hG2 HG1 HM2 HRB3
          go_wp2_with fail
          go_meet
          exact ⟨R ++ P.drop i, ab3, cb3, ai3, ci3, by rw [HLN.out], by rw [HLN.out], HFIN⟩
        · have hon' : ((o : Int) == (n2 : Int)) = false := by rw [beq_eq_false_iff_ne]; omega
          have ho1 : (o : Int) < (n2 : Int) := by omega
          obtain ⟨bb1, ii1, q1, q2, hc1⟩ := s1.out.at (by have := HN1.out; omega)
          obtain ⟨bb2, ii2, q3, q4, hc2⟩ := s2.out.at (by have := HN2.out; omega)
          obtain ⟨x, hx⟩ : ∃ x, P[i]? = some x := ⟨P[i]'(by have := HN1.out; omega), List.getElem?_eq_getElem _⟩
          obtain ⟨y, hy⟩ : ∃ y, Q[o]? = some y := ⟨Q[o]'(by have := HN2.out; omega), List.getElem?_eq_getElem _⟩
          have f2 := (hc1 i x hx).1
          have f1 := (hc1 i x hx).2
          have t2 := (hc2 o y hy).1
          have t1 := (hc2 o y hy).2
          have HX := Lib.hid hx
          have HY := Lib.hid hy
          have hox := H1.out.ok x (List.mem_of_getElem? hx)
          have hoy := H2.out.ok y (List.mem_of_getElem? hy)
          have HOK := Lib.hid hox
          have HOKY := Lib.hid hoy
          have hx57 : (x.1 : Int) < 144115188075855872 := by have := hox.2.2; omega
          have hy57 : (y.1 : Int) < 144115188075855872 := by have := hoy.2.2; omega
          clear hc1 hc2 hox hoy
          rcases Nat.lt_trichotomy x.1 y.1 with hlt | heq | hgt
          · have hdf : (0 : Int) < (y.1 : Int) - (x.1 : Int) := by omega
            have hdf2 : (x.1 : Int) < (y.1 : Int) := by omega
            have HIN : Hid (OrInv P Q (R ++ [x]) (i + 1) o) := Lib.hid (HI.out.2.left H1.out.good HX.out (fun u hu => Nat.lt_of_lt_of_le hlt (drop_le H2.out.asc HY.out u hu)))
            obtain ⟨x1, hx1⟩ : ∃ x1, x.1 = x1 := ⟨_, rfl⟩
            obtain ⟨y1, hy1⟩ : ∃ y1, y.1 = y1 := ⟨_, rfl⟩
            obtain ⟨v, hv⟩ : ∃ v, x.2 = v := ⟨_, rfl⟩
            have HEL : Hid (x = (x1, v)) := Lib.hid (by rw [← hv, ← hx1])
            rw [hx1] at f1 hx57 hdf hdf2
            rw [hy1] at t1 hy57 hdf hdf2
            rw [hv] at f2
            have w1 : IntKind.i64.wrap (x1 : Int) = (x1 : Int) := IntWalk.i64_in _ (by omega)
            have w2 : IntKind.i64.wrap (y1 : Int) = (y1 : Int) := IntWalk.i64_in _ (by omega)
            have hxx : (0 : Int) ≤ (x1 : Int) := by omega
            have hyy : (0 : Int) ≤ (y1 : Int) := by omega
            subst q2
            subst q4
            clear hx hy hlt hx1 hy1 hv
            go_wp2_with (at_builtin; refine wpList_append (R.length + 1) (U (R.map (·.1)) ++ U [x1]) rfl _ _ _ _ rfl slIdx rfl (HI.out.1.idx.keep (S := fun _ => False) (by repeat (first | exact Only.refl _ _ | apply Only.alloc | apply Only.drew)) (fun _ _ => id)) rfl (Src.row (size := 1) (cs := #[.int .u64 (x1 : Int)]) (t := 34) (fr := (0, 0)) Tryz.underlying92 (by exact heap_alloc_new _ _) 1 1 rfl (by intro u hu; simp at hu; subst hu; rfl)) rfl rfl (by unfold maxLen; omega) (by omega) ?_)
            intro ai3 ci3 w3 hG1
            have hmid := HI.out.1.mid2 (X := [(x1, v)]) (m := 1) ((Only.refl _ _).alloc _) hG1
            have s3 := H1.out.still hmid.2
            have g0 := s3.c0
            rw [HN1.out] at g0
            obtain ⟨_, _, q5, q6, hc5⟩ := s3.at (by have := HN1.out; omega)
            cases q1.symm.trans q5
            have g2 := (hc5 i x HX.out).1
            rw [HEL.out] at g2
            have HM2 := Lib.hid hmid
            have HG1 := Lib.hid hG1
            clear hmid hG1 s3 hc5 q5 q6
            subst q1
            go_wp2_with (at_builtin; refine wpList_append (R.length + 1) (U (R.map (·.2)) ++ U [v]) rfl _ _ _ _ rfl slBl rfl (HM2.out.1.keep (S := fun _ => False) (by repeat (first | exact Only.refl _ _ | apply Only.alloc | apply Only.drew)) (fun _ _ => id)) rfl (Src.row (size := 1) (cs := #[.int .u64 (v : Int)]) (t := 74) (fr := (0, 0)) Tryz.underlying91 (by exact heap_alloc_new _ _) 1 1 rfl (by intro u hu; simp at hu; subst hu; rfl)) rfl rfl (by unfold maxLen; omega) (by omega) ?_)
            intro ab3 cb3 w4 hG2
            have HNX : Hid (Prs w w4 ab3 cb3 ai3 ci3 (R ++ [x]) ∧ OrInv P Q (R ++ [x]) (i + 1) o) := Lib.hid ⟨by rw [HEL.out]; exact HI.out.1.push2 (X := [(x1, v)]) rfl ((Only.refl _ _).alloc _) HG1.out ((Only.refl _ _).alloc _) hG2, HIN.out⟩
            clear hG2 HG1 HM2
            go_wp2_with fail
            go_roundw
            case rel => exact ⟨(i + 1), o, R ++ [x], ab3, cb3, ai3, ci3, by omega, by omega, by rw [R_push2]; omega, by rw [R_push2], by rw [R_push2], by go_num, by go_num, HNX⟩
            case measure => simp [intOf]; omega
          · have HIN : Hid (OrInv P Q (R ++ [(x.1, x.2 ||| y.2)]) (i + 1) (o + 1)) := Lib.hid (HI.out.2.both H1.out.good H2.out.good HX.out HY.out heq)
            obtain ⟨v, hv⟩ : ∃ v, x.2 ||| y.2 = v := ⟨_, rfl⟩
            have HOP : Hid (∀ wx, Calls Tryz.prog 97 #[.int .u64 (x.2 : Int), .int .u64 (y.2 : Int)] wx fun e w' => e = .returned (.int .u64 (v : Int)) ∧ w' = wx) := Lib.hid (fun wx => by rw [← hv]; exact orW _ _ HOK.out.1 HOKY.out.1 wx)
            obtain ⟨x1, hx1⟩ : ∃ x1, x.1 = x1 := ⟨_, rfl⟩
            obtain ⟨x2, hx2⟩ : ∃ x2, x.2 = x2 := ⟨_, rfl⟩
            obtain ⟨y2, hy2⟩ : ∃ y2, y.2 = y2 := ⟨_, rfl⟩
            have HEX : Hid (x.2 = x2 ∧ y.2 = y2) := Lib.hid ⟨hx2, hy2⟩
            rw [hx2, hy2] at HOP
            rw [hx1, hv] at HIN
            rw [← heq, hx1] at t1 hy57
            rw [hx1] at f1 hx57
            rw [hx2] at f2
            rw [hy2] at t2
            have w1 : IntKind.i64.wrap (x1 : Int) = (x1 : Int) := IntWalk.i64_in _ (by omega)
            have hxx : (0 : Int) ≤ (x1 : Int) := by omega
            subst q2
            subst q4
            clear hx hy heq hx1 hv hx2 hy2
            go_wp2_with (at_builtin; refine wpList_append (R.length + 1) (U (R.map (·.1)) ++ U [x1]) rfl _ _ _ _ rfl slIdx rfl (HI.out.1.idx.keep (S := fun _ => False) (by repeat (first | exact Only.refl _ _ | apply Only.alloc | apply Only.drew)) (fun _ _ => id)) rfl (Src.row (size := 1) (cs := #[.int .u64 (x1 : Int)]) (t := 34) (fr := (0, 0)) Tryz.underlying92 (by exact heap_alloc_new _ _) 1 1 rfl (by intro u hu; simp at hu; subst hu; rfl)) rfl rfl (by unfold maxLen; omega) (by omega) ?_)
            intro ai3 ci3 w3 hG1
            have hmid := HI.out.1.mid2 (X := [(x1, v)]) (m := 1) ((Only.refl _ _).alloc _) hG1
            have s3 := H1.out.still hmid.2
            have s4 := H2.out.still hmid.2
            have g0 := s3.c0
            have g1 := s4.c0
            rw [HN1.out] at g0
            rw [HN2.out] at g1
            obtain ⟨_, _, q5, q6, hc5⟩ := s3.at (by have := HN1.out; omega)
            cases q1.symm.trans q5
            obtain ⟨_, _, q7, q8, hc7⟩ := s4.at (by have := HN2.out; omega)
            cases q3.symm.trans q7
            have g2 := (hc5 i x HX.out).1
            have g3 := (hc7 o y HY.out).1
            rw [HEX.out.1] at g2
            rw [HEX.out.2] at g3
            have HM2 := Lib.hid hmid
            have HG1 := Lib.hid hG1
            clear hmid hG1 s3 s4 hc5 q5 q6 hc7 q7 q8
            subst q1
            subst q3
            go_wp2_with fail
            clear d0 d1 e0 e1 f1 f2 t1 t2 s1 s2 HX HY HOK HOKY HEX hin' hon' hx57 hy57 w1 hxx
            go_region_law (first
              | (go_simp; go_at_call 97; refine (HOP.out _).mono ?_; rintro e w9 ⟨rfl, rfl⟩)
              | (refine step_app (R.length + 1) (U (R.map (·.2)) ++ U [v]) (by rfl) _ _ _ _ (by rfl) slBl ?_ (HM2.out.1.keep (S := fun _ => False) (by with_reducible repeat (first | exact Only.refl _ _ | apply Only.alloc | apply Only.drew)) (fun _ _ => id)) ?_ (Src.row (size := 1) (cs := #[.int .u64 (v : Int)]) (t := 74) (fr := (0, 0)) Tryz.underlying91 (show ((w3.alloc (.cells #[.int .u64 (v : Int)] 74)).drew).heap[w3.heap.size]? = _ from heap_alloc_new' w3 _ _ rfl) 1 1 rfl (by simp [Value.oneCell'])) rfl rfl (by unfold maxLen; omega) (by omega) ?_; (go_simp); (go_simp); intro ab3 cb3 w4 hG2))
            all_goals
              have HNX : Hid (Prs w w4 ab3 cb3 ai3 ci3 (R ++ [(x1, v)]) ∧ OrInv P Q (R ++ [(x1, v)]) (i + 1) (o + 1)) := Lib.hid ⟨HI.out.1.push2 (X := [(x1, v)]) rfl ((Only.refl _ _).alloc _) HG1.out (((Only.refl _ _).alloc _).drew) hG2, HIN.out⟩
              clear hG2 HG1 HM2
              go_wp2_with fail
              go_roundw
              case rel => exact ⟨i + 1, o + 1, R ++ [(x1, v)], ab3, cb3, ai3, ci3, by omega, by omega, by rw [R_push2]; omega, by rw [R_push2], by rw [R_push2], by go_num, by go_num, HNX⟩
              case measure => simp [intOf]; omega
          · have hdf : ¬ (0 : Int) < (y.1 : Int) - (x.1 : Int) := by omega
            have hdf2 : (y.1 : Int) - (x.1 : Int) < 0 := by omega
            have hdf3 : ¬ (x.1 : Int) < (y.1 : Int) := by omega
            have hdf4 : (y.1 : Int) < (x.1 : Int) := by omega
            have HIN : Hid (OrInv P Q (R ++ [y]) i (o + 1)) := Lib.hid (HI.out.2.right H2.out.good HY.out (fun u hu => Nat.lt_of_lt_of_le hgt (drop_le H1.out.asc HX.out u hu)))
            obtain ⟨x1, hx1⟩ : ∃ x1, x.1 = x1 := ⟨_, rfl⟩
            obtain ⟨y1, hy1⟩ : ∃ y1, y.1 = y1 := ⟨_, rfl⟩
            obtain ⟨v, hv⟩ : ∃ v, y.2 = v := ⟨_, rfl⟩
            have HEL : Hid (y = (y1, v)) := Lib.hid (by rw [← hv, ← hy1])
            rw [hx1] at f1 hx57 hdf hdf2 hdf3 hdf4
            rw [hy1] at t1 hy57 hdf hdf2 hdf3 hdf4
            rw [hv] at t2
            have w1 : IntKind.i64.wrap (x1 : Int) = (x1 : Int) := IntWalk.i64_in _ (by omega)
            have w2 : IntKind.i64.wrap (y1 : Int) = (y1 : Int) := IntWalk.i64_in _ (by omega)
            have hxx : (0 : Int) ≤ (x1 : Int) := by omega
            have hyy : (0 : Int) ≤ (y1 : Int) := by omega
            subst q2
            subst q4
            clear hx hy hgt hx1 hy1 hv
            go_wp2_with (at_builtin; refine wpList_append (R.length + 1) (U (R.map (·.1)) ++ U [y1]) rfl _ _ _ _ rfl slIdx rfl (HI.out.1.idx.keep (S := fun _ => False) (by repeat (first | exact Only.refl _ _ | apply Only.alloc | apply Only.drew)) (fun _ _ => id)) rfl (Src.row (size := 1) (cs := #[.int .u64 (y1 : Int)]) (t := 34) (fr := (0, 0)) Tryz.underlying92 (by exact heap_alloc_new _ _) 1 1 rfl (by intro u hu; simp at hu; subst hu; rfl)) rfl rfl (by unfold maxLen; omega) (by omega) ?_)
            intro ai3 ci3 w3 hG1
            have hmid := HI.out.1.mid2 (X := [(y1, v)]) (m := 1) ((Only.refl _ _).alloc _) hG1
            have s3 := H2.out.still hmid.2
            have g0 := s3.c0
            rw [HN2.out] at g0
            obtain ⟨_, _, q5, q6, hc5⟩ := s3.at (by have := HN2.out; omega)
            cases q3.symm.trans q5
            have g2 := (hc5 o y HY.out).1
            rw [HEL.out] at g2
            have HM2 := Lib.hid hmid
            have HG1 := Lib.hid hG1
            clear hmid hG1 s3 hc5 q5 q6
            subst q3
            go_wp2_with (at_builtin; refine wpList_append (R.length + 1) (U (R.map (·.2)) ++ U [v]) rfl _ _ _ _ rfl slBl rfl (HM2.out.1.keep (S := fun _ => False) (by repeat (first | exact Only.refl _ _ | apply Only.alloc | apply Only.drew)) (fun _ _ => id)) rfl (Src.row (size := 1) (cs := #[.int .u64 (v : Int)]) (t := 74) (fr := (0, 0)) Tryz.underlying91 (by exact heap_alloc_new _ _) 1 1 rfl (by intro u hu; simp at hu; subst hu; rfl)) rfl rfl (by unfold maxLen; omega) (by omega) ?_)
            intro ab3 cb3 w4 hG2
            have HNX : Hid (Prs w w4 ab3 cb3 ai3 ci3 (R ++ [y]) ∧ OrInv P Q (R ++ [y]) i (o + 1)) := Lib.hid ⟨by rw [HEL.out]; exact HI.out.1.push2 (X := [(y1, v)]) rfl ((Only.refl _ _).alloc _) HG1.out ((Only.refl _ _).alloc _) hG2, HIN.out⟩
            clear hG2 HG1 HM2
            go_wp2_with fail
            go_roundw
            case rel => exact ⟨i, (o + 1), R ++ [y], ab3, cb3, ai3, ci3, by omega, by omega, by rw [R_push2]; omega, by rw [R_push2], by rw [R_push2], by go_num, by go_num, HNX⟩
            case measure => simp [intOf]; omega
  case rest =>
    obtain ⟨R, ab, cb, ai, ci, rfl, rfl, HD⟩ := hcut
    have HFIN := Lib.hid (HD.out.1.arr (l := L) HD.out.2.1 HD.out.2.2.2 HD.out.2.2.1)
    clear HP0 H1 H2 HRE HD
    go_wp2_with fail
    go_ret
    exact HFIN.out
end Go.Proofs.YtacjkbljokjdkaaGreat.ba

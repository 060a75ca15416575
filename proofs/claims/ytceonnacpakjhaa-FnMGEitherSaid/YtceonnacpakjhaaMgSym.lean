/-
  SymMerge: two sorted lists become one.
-/
import Derived.Test.YtceonnacpakjhaaMgPrep
namespace Go.Proofs.Ytceonnacpakjhaa.mg
open Go.RowKit Go.Proofs.Ytceonnacpakjhaa.base Go.Proofs.Ytceonnacpakjhaa.heap Go.Proofs.Ytceonnacpakjhaa.rows Go.Proofs.Ytceonnacpakjhaa.pq
set_option linter.unusedVariables false

/-- the keys ascend -/
def Sorted (L : List It) : Prop := L.Pairwise fun x y => x.key ≤ y.key
theorem srt_of {L : List It} (h : Sorted L) : Srt 0 L.length L := fun i j _ hij hj => by
  rcases Nat.eq_or_lt_of_le hij with rfl | hlt
  · exact Int.le_refl _
  · have := List.pairwise_iff_getElem.1 h i j (by omega) hj hlt
    rw [kAt_eq (List.getElem?_eq_getElem (show i < L.length by omega)), kAt_eq (List.getElem?_eq_getElem hj)]
    exact this
theorem srt_to {L : List It} (h : Srt 0 L.length L) : Sorted L := List.pairwise_iff_getElem.2 fun i j hi hj hlt => by
  have := h i j (Nat.zero_le _) (Nat.le_of_lt hlt) hj
  rwa [kAt_eq (List.getElem?_eq_getElem hi), kAt_eq (List.getElem?_eq_getElem hj)] at this
theorem kAt_left (A B : List It) {i : Nat} (h : i < A.length) : kAt (A ++ B) i = kAt A i := kAt_of (List.getElem?_append_left h)
theorem kAt_right (A B : List It) {i : Nat} (h : A.length ≤ i) : kAt (A ++ B) i = kAt B (i - A.length) := kAt_of (List.getElem?_append_right h)
theorem srt_left {A : List It} (B : List It) (h : Sorted A) : Srt 0 A.length (A ++ B) := fun i j h1 h2 h3 => by
  rw [kAt_left A B (by omega), kAt_left A B h3]; exact srt_of h i j h1 h2 h3
theorem srt_right (A : List It) {B : List It} (h : Sorted B) : Srt A.length (A.length + B.length) (A ++ B) := fun i j h1 h2 h3 => by
  rw [kAt_right A B h1, kAt_right A B (by omega)]; exact srt_of h _ _ (Nat.zero_le _) (by omega) (by omega)

/-- what a merge hands back -/
def SyP (U W : List It) (S : Nat → Prop) (w : World) (e : Ending) (w' : World) : Prop :=
  ∃ a cap L', e = .returned (.slice a L'.length cap) ∧ RL itv w' a L'.length cap L' ∧ Sorted L' ∧ L'.Perm (U ++ W) ∧ Only S w w'
def S2b (gu gw : Nat) (k : Nat) : Prop := k = gu ∨ k = gw

set_option maxRecDepth 100000 in
theorem symA (gu gw nu nw cu cw : Nat) (U W : List It) (w : World) (hU : Me w (some ⟨gu, 0, none⟩) nu cu U) (hW : Me w (some ⟨gw, 0, none⟩) nw cw W) (su : Sorted U) (sw : Sorted W) (h0 : nu = 0 ∨ nw = 0) :
    Calls Try.prog 12 #[.slice (some ⟨gu, 0, none⟩) nu cu, .slice (some ⟨gw, 0, none⟩) nw cw] w (SyP U W (S2b gu gw) w) := by
  have hlu := hU.2
  have hlw := hW.2
  have HP1 : Hid (nu = 0 → SyP U W (S2b gu gw) w (.returned (.slice (some ⟨gw, 0, none⟩) nw cw)) w) := Lib.hid (fun h => by
    have : U = [] := List.eq_nil_of_length_eq_zero (by omega)
    subst this
    exact ⟨_, cw, W, by rw [hlw], by rw [hlw]; exact hW.rl, sw, by simp, Only.refl _ _⟩)
  have HP2 : Hid (nw = 0 → SyP U W (S2b gu gw) w (.returned (.slice (some ⟨gu, 0, none⟩) nu cu)) w) := Lib.hid (fun h => by
    have : W = [] := List.eq_nil_of_length_eq_zero (by omega)
    subst this
    exact ⟨_, cu, U, by rw [hlu], by rw [hlu]; exact hU.rl, su, by simp, Only.refl _ _⟩)
  clear hU hW su sw hlu hlw
  by_cases c : nu = 0
  · have c' : (nu : Int) = 0 := by omega
    have HC := Lib.hid c
    clear h0 c
    go_enter Try.func12, Try.ntmps12
    go_wp2_with fail
    go_ret
    exact HP1.out HC.out
  · have c' : ¬ (nu : Int) = 0 := by omega
    have c'' : (nw : Int) = 0 := by omega
    have HC : Hid (nw = 0) := Lib.hid (by omega)
    clear h0 c
    go_enter Try.func12, Try.ntmps12
    go_wp2_with fail
    go_ret
    exact HP2.out HC.out

set_option maxRecDepth 100000 in
set_option maxHeartbeats 1600000 in
theorem symB (gu gw nu nw cu cw : Nat) (U W : List It) (w : World) (hU : Me w (some ⟨gu, 0, none⟩) nu cu U) (hW : Me w (some ⟨gw, 0, none⟩) nw cw W) (su : Sorted U) (sw : Sorted W) (h0 : 0 < nu) (h1 : 0 < nw) (h2 : nu ≤ nw + 1) (h3 : nw ≤ nu + 1) (h4 : nu ≤ 60) (h5 : nw ≤ 60) :
    Calls Try.prog 12 #[.slice (some ⟨gu, 0, none⟩) nu cu, .slice (some ⟨gw, 0, none⟩) nw cw] w (SyP U W (S2b gu gw) w) := by
  have hlu := hU.2
  have hlw := hW.2
  have hbu := hU.bound
  have hbw := hW.bound
  obtain ⟨d, hd⟩ : ∃ d : Int, (nu : Int) - (nw : Int) = d := ⟨_, rfl⟩
  have HA := Lib.hid (abs_any d (by omega) (by omega))
  have hg := List.all_eq_true.1 gt_ok _ (smalls_mem (d := d) (by omega) (by omega))
  simp only [beq_iff_eq] at hg
  have hg2 : (FloatKind.f64.format.order (dAbs d) 4607182418800017408 == some .gt) = false := by
    rw [show (4607182418800017408 : Nat) = one64 from rfl, hg]; exact decide_eq_false (by omega)
  have f1 : IntKind.i64.wrap d = d := IntWalk.i64_in _ (by omega)
  have c1 : ¬ (nu : Int) = 0 := by omega
  have c2 : ¬ (nw : Int) = 0 := by omega
  have HU := Lib.hid hU
  have HW := Lib.hid hW
  have HS := Lib.hid (And.intro su sw)
  have HL := Lib.hid (And.intro hlu hlw)
  have HB := Lib.hid (And.intro h4 h5)
  generalize dAbs d = x at *
  clear hU hW su sw hlu hlw hg h0 h1 h2 h3 h4 h5
  go_enter Try.func12, Try.ntmps12
  go_wp2_with (go_at_call 16; with_reducible refine (HA.out _).mono ?_)
  rintro e w1 ⟨rfl, rfl⟩
  obtain ⟨N, hN⟩ : ∃ N, nu + nw = N := ⟨_, rfl⟩
  have HNN := Lib.hid hN
  have hNb : N ≤ 120 := by have := HB.out; omega
  clear hN
  go_wp2_with (at_builtin; refine wpList_append N (U.map itv ++ W.map itv) rfl _ _ _ _ rfl slI rfl HU.out.1 rfl (HW.out.1.rd.src Try.underlying34) HNN.out rfl (by unfold maxLen; omega) (by omega) ?_)
  intro a2 cap2 w2 hG
  obtain ⟨g2, rfl, hg2'⟩ := grew_some hG
  have hM : Me w2 (some ⟨g2, 0, none⟩) N cap2 (U ++ W) := ⟨by have := hG.own; rwa [List.map_append], by have := HL.out; have := HNN.out; simp; omega⟩
  have HO : Hid (Only (S2b gu gw) w w2) := Lib.hid (hG.only.mono (fun k hk h => .inl (Eq.symm h)))
  have HG2 : Hid (g2 = gu ∨ w.heap.size ≤ g2) := Lib.hid hg2'
  have hsrt : Srt 0 nu (U ++ W) := by have := srt_left W HS.out.1; rwa [HL.out.1] at this
  have hsrt2 : Srt nu N (U ++ W) := by have := srt_right U HS.out.2; rwa [HL.out.1, HL.out.2, HNN.out] at this
  have HSM : Hid (Calls Try.prog 18 #[.slice (some ⟨g2, 0, none⟩) N cap2, .int .i64 0, .int .i64 (nu : Int), .int .i64 (N : Int)] w2 (SmP 0 N g2 N cap2 (U ++ W) w2)) := Lib.hid (symMerge N 0 nu N g2 N cap2 (U ++ W) w2 (by omega) hM hsrt hsrt2 (Nat.zero_le _) (by have := HNN.out; omega) (Nat.le_refl _) (by omega))
  have hbN := hM.bound
  clear hG hM hsrt hsrt2 hg2'
  go_wp2_with (go_at_call 18; with_reducible refine HSM.out.mono ?_)
  rintro e w3 h3
  obtain ⟨rfl, L', mv, so, hr, hO3⟩ : e = .returned (.tuple #[]) ∧ ∃ L', Mv 0 N (U ++ W) L' ∧ Srt 0 N L' ∧ Me w3 (some ⟨g2, 0, none⟩) N cap2 L' ∧ Only (At (some ⟨g2, 0, none⟩)) w2 w3 := h3
  have hl3 : L'.length = N := hr.2
  have HF : Hid (SyP U W (S2b gu gw) w (.returned (.slice (some ⟨g2, 0, none⟩) N cap2)) w3) := Lib.hid
    ⟨_, cap2, L', by rw [hl3], by rw [hl3]; exact hr.rl, srt_to (by rw [hl3]; exact so), mv.perm, HO.out.trans hO3 (fun k hk h => by
      have h' : g2 = k := h
      rcases HG2.out with h2 | h2
      · exact .inl (h'.symm.trans h2)
      · omega)⟩
  clear mv so hr hO3 hl3
  go_wp2_with fail
  go_ret
  exact HF.out

/-- the two halves that come of taking two lists apart -/
theorem halves {U W : List It} {gw nu nw cw i k g1 g2 : Nat} {w w' : World} (h : Prep U W gw nu nw cw i k g1 g2 w w') (hu : U.length = nu) (hw : W.length = nw) (hl : nu + 2 ≤ nw) (su : Sorted U) (sw : Sorted W) :
    (∀ x ∈ U.take i ++ W.take k, ∀ y ∈ U.drop i ++ W.drop k, x.key ≤ y.key) ∧ Sorted (U.take i) ∧ Sorted (W.take k) ∧ Sorted (U.drop i) ∧ Sorted (W.drop k) ∧ (U.take i ++ W.take k ++ (U.drop i ++ W.drop k)).Perm (U ++ W) ∧ k ≤ nw := by
  obtain ⟨h1, h2⟩ := h.le
  have hk : k ≤ nw := by omega
  have hU := srt_of su
  have hW := srt_of sw
  refine ⟨fun x hx y hy => ?_, su.sublist (List.take_sublist _ _), sw.sublist (List.take_sublist _ _), su.sublist (List.drop_sublist _ _), sw.sublist (List.drop_sublist _ _), ?_, hk⟩
  · have hx' : (∃ p, p < i ∧ kAt U p = x.key) ∨ ∃ p, p < k ∧ kAt W p = x.key := by
      rcases List.mem_append.1 hx with hx | hx
      · obtain ⟨p, hp⟩ := List.mem_iff_getElem?.1 hx
        rw [List.getElem?_take] at hp
        split at hp
        · exact .inl ⟨p, by assumption, kAt_eq hp⟩
        · cases hp
      · obtain ⟨p, hp⟩ := List.mem_iff_getElem?.1 hx
        rw [List.getElem?_take] at hp
        split at hp
        · exact .inr ⟨p, by assumption, kAt_eq hp⟩
        · cases hp
    have hy' : (∃ q, i ≤ q ∧ q < nu ∧ kAt U q = y.key) ∨ ∃ q, k ≤ q ∧ q < nw ∧ kAt W q = y.key := by
      rcases List.mem_append.1 hy with hy | hy
      · obtain ⟨p, hp⟩ := List.mem_iff_getElem?.1 hy
        rw [List.getElem?_drop] at hp
        have := (List.getElem?_eq_some_iff.1 hp).1
        exact .inl ⟨i + p, by omega, by omega, kAt_eq hp⟩
      · obtain ⟨p, hp⟩ := List.mem_iff_getElem?.1 hy
        rw [List.getElem?_drop] at hp
        have := (List.getElem?_eq_some_iff.1 hp).1
        exact .inr ⟨k + p, by omega, by omega, kAt_eq hp⟩
    rcases hx' with ⟨p, p1, ep⟩ | ⟨p, p1, ep⟩ <;> rcases hy' with ⟨q, q1, q2, eq⟩ | ⟨q, q1, q2, eq⟩
    · rw [← ep, ← eq]; exact hU p q (Nat.zero_le _) (by omega) (by omega)
    · have h3 : kAt U (i - 1) ≤ kAt W k := h.left.resolve_left (by omega)
      have h4 := hU p (i - 1) (Nat.zero_le _) (by omega) (by omega)
      have h5 := hW k q (Nat.zero_le _) (by omega) (by omega)
      omega
    · have h3 : kAt W (k - 1) < kAt U i := h.right.resolve_left (by omega)
      have h4 := hW p (k - 1) (Nat.zero_le _) (by omega) (by omega)
      have h5 := hU i q (Nat.zero_le _) (by omega) (by omega)
      omega
    · rw [← ep, ← eq]; exact hW p q (Nat.zero_le _) (by omega) (by omega)
  · have e1 : (U.take i ++ W.take k ++ (U.drop i ++ W.drop k)).Perm (U.take i ++ U.drop i ++ (W.take k ++ W.drop k)) := by
      rw [List.append_assoc, List.append_assoc]
      refine List.Perm.append_left _ ?_
      rw [← List.append_assoc, ← List.append_assoc]
      exact List.Perm.append_right _ List.perm_append_comm
    rwa [List.take_append_drop, List.take_append_drop] at e1
theorem sorted_append {A B : List It} (ha : Sorted A) (hb : Sorted B) (h : ∀ x ∈ A, ∀ y ∈ B, x.key ≤ y.key) : Sorted (A ++ B) := List.pairwise_append.2 ⟨ha, hb, h⟩

set_option maxRecDepth 100000 in
set_option maxHeartbeats 3200000 in
theorem symC (gu gw nu nw cu cw : Nat) (U W : List It) (w : World) (hU : Me w (some ⟨gu, 0, none⟩) nu cu U) (hW : Me w (some ⟨gw, 0, none⟩) nw cw W) (su : Sorted U) (sw : Sorted W) (ns nl cs cl gs gl : Nat) (X Y : List It)
    (hxy : (gs = gu ∧ ns = nu ∧ cs = cu ∧ X = U ∧ gl = gw ∧ nl = nw ∧ cl = cw ∧ Y = W) ∨ (gs = gw ∧ ns = nw ∧ cs = cw ∧ X = W ∧ gl = gu ∧ nl = nu ∧ cl = cu ∧ Y = U)) (h0 : 0 < ns) (h2 : ns + 2 ≤ nl) (h5 : nl ≤ 60) :
    Calls Try.prog 12 #[.slice (some ⟨gu, 0, none⟩) nu cu, .slice (some ⟨gw, 0, none⟩) nw cw] w (SyP U W (S2b gu gw) w) := by
  have HX : Hid (Me w (some ⟨gs, 0, none⟩) ns cs X ∧ Me w (some ⟨gl, 0, none⟩) nl cl Y ∧ Sorted X ∧ Sorted Y ∧ (X ++ Y).Perm (U ++ W)) := Lib.hid (by
    rcases hxy with ⟨rfl, rfl, rfl, rfl, rfl, rfl, rfl, rfl⟩ | ⟨rfl, rfl, rfl, rfl, rfl, rfl, rfl, rfl⟩
    · exact ⟨hU, hW, su, sw, .refl _⟩
    · exact ⟨hW, hU, sw, su, List.perm_append_comm⟩)
  have HP : Hid (Calls Try.prog 17 #[.slice (some ⟨gu, 0, none⟩) nu cu, .slice (some ⟨gw, 0, none⟩) nw cw] w (PrepP X Y gl ns nl cl w)) := Lib.hid (by
    refine prep0 gs ns cs gl nl cl X Y w HX.out.1 HX.out.2.1 h0 h2 (by omega) _ _ ?_
    rcases hxy with ⟨rfl, rfl, rfl, rfl, rfl, rfl, rfl, rfl⟩ | ⟨rfl, rfl, rfl, rfl, rfl, rfl, rfl, rfl⟩
    · exact .inl ⟨rfl, rfl⟩
    · exact .inr ⟨rfl, rfl⟩)
  have hd0 : (2 : Int) ≤ (((nu : Int) - (nw : Int)).natAbs : Int) ∧ 0 < nu ∧ 0 < nw ∧ nu ≤ 60 ∧ nw ≤ 60 := by omega
  obtain ⟨d, hd⟩ : ∃ d : Int, (nu : Int) - (nw : Int) = d := ⟨_, rfl⟩
  have HA := Lib.hid (abs_any d (by omega) (by omega))
  have hg := List.all_eq_true.1 gt_ok _ (smalls_mem (d := d) (by omega) (by omega))
  simp only [beq_iff_eq] at hg
  have hg2 : (FloatKind.f64.format.order (dAbs d) 4607182418800017408 == some .gt) = true := by
    rw [show (4607182418800017408 : Nat) = one64 from rfl, hg]; exact decide_eq_true (by omega)
  have f1 : IntKind.i64.wrap d = d := IntWalk.i64_in _ (by omega)
  have c1 : ¬ (nu : Int) = 0 := by omega
  have c2 : ¬ (nw : Int) = 0 := by omega
  have HB := Lib.hid (And.intro h0 (And.intro h2 h5))
  generalize dAbs d = x at *
  clear hU hW su sw hg h0 h2 h5 hxy hd0
  go_enter Try.func12, Try.ntmps12
  go_wp2_with (go_at_call 16; with_reducible refine (HA.out _).mono ?_)
  rintro e w1 ⟨rfl, rfl⟩
  go_wp2_with (go_at_call 17; with_reducible refine HP.out.mono ?_)
  rintro e w1 h3
  obtain ⟨i, k, g1, g2, rfl, hp⟩ : ∃ i k g1 g2, e = .returned (.tuple #[.slice (some ⟨g1, 0, none⟩) i i, .slice (some ⟨gl, 0, none⟩) k cl, .slice (some ⟨g2, 0, none⟩) (ns - i) (ns - i), .slice (some ⟨gl, k, none⟩) (nl - k) (cl - k)]) ∧ Prep X Y gl ns nl cl i k g1 g2 w w1 := h3
  have HPR := Lib.hid hp
  have HH := Lib.hid (halves hp HX.out.1.2 HX.out.2.1.2 HB.out.2.1 HX.out.2.2.1 HX.out.2.2.2.1)
  obtain ⟨j, hj⟩ : ∃ j, ns - i = j := ⟨_, rfl⟩
  obtain ⟨m, hm⟩ : ∃ j, nl - k = j := ⟨_, rfl⟩
  obtain ⟨N1, hN1⟩ : ∃ j, i + k = j := ⟨_, rfl⟩
  obtain ⟨N2, hN2⟩ : ∃ N, j + m = N := ⟨_, rfl⟩
  obtain ⟨N, hN⟩ : ∃ N, N1 + N2 = N := ⟨_, rfl⟩
  have HE := Lib.hid (And.intro (And.intro hj hm) (And.intro hN1 hN2))
  have hsz : N1 ≤ 120 ∧ N2 ≤ 120 := by have := HB.out; have := HPR.out.le; have := HH.out.2.2.2.2.2.2; omega
  have hlX := HX.out.1.2
  have hlY := HX.out.2.1.2
  have hb1 : i ≤ 60 ∧ j ≤ 60 := by have := HB.out; have := HPR.out.le; omega
  have hu1 := HPR.out.u1
  have hu2 : Me w1 (some ⟨g2, 0, none⟩) j j (X.drop i) := by have := HPR.out.u2; rwa [hj] at this
  have HU1 := Lib.hid hu1
  have HU2 := Lib.hid hu2
  have HG : Hid (w.heap.size ≤ g1 ∧ g1 < g2 ∧ g2 < w1.heap.size ∧ gl < w.heap.size) := Lib.hid ⟨HPR.out.new.1, HPR.out.new.2, hu2.lt, HX.out.2.1.lt⟩
  have HR1 : Hid (∀ wx, Same w wx → RL itv wx (some ⟨gl, 0, none⟩) k cl (Y.take k)) := Lib.hid (fun wx hs => by
    have := Me.part (OL.still HX.out.2.1 hs) (o := 0) (k := k) (c := cl) (by have := HH.out.2.2.2.2.2.2; omega) (by have := HH.out.2.2.2.2.2.2; have := HX.out.2.1.bound; omega) (by have := HX.out.2.1.bound; unfold maxLen; omega)
    rwa [List.drop_zero] at this)
  have HR2 : Hid (∀ wx, Same w wx → RL itv wx (some ⟨gl, k, none⟩) m (cl - k) (Y.drop k)) := Lib.hid (fun wx hs => by
    have := Me.part (OL.still HX.out.2.1 hs) (o := k) (k := m) (c := cl - k) (by have := HH.out.2.2.2.2.2.2; omega) (by have := HH.out.2.2.2.2.2.2; have := HX.out.2.1.bound; omega) (by have := HX.out.2.1.bound; unfold maxLen; omega)
    rwa [List.take_of_length_le (by rw [List.length_drop]; omega)] at this)
  have HS1 := Lib.hid hp.same
  have HLL : Hid ((X.take i).length = i ∧ (X.drop i).length = j ∧ (Y.take k).length = k ∧ (Y.drop k).length = m) := Lib.hid (by
    have := HPR.out.le
    have := HH.out.2.2.2.2.2.2
    refine ⟨?_, ?_, ?_, ?_⟩ <;> simp <;> omega)
  rw [hj, hm]
  clear hj hm hN1 hN2 hp hu1 hu2 hlX hlY
  go_wp2_with (at_builtin; refine wpList_append N1 ((X.take i).map itv ++ (Y.take k).map itv) rfl _ _ _ _ rfl slI rfl HU1.out.1 rfl ((HR1.out _ HS1.out).1.src Try.underlying34) HE.out.2.1 rfl (by unfold maxLen; omega) (by omega) ?_)
  intro a3 c3 w2 hG
  obtain ⟨g3, rfl, hg3⟩ := grew_some hG
  have HM3 : Hid (Me w2 (some ⟨g3, 0, none⟩) N1 c3 (X.take i ++ Y.take k)) := Lib.hid ⟨by rw [List.map_append]; simpa only [List.map_take, List.map_drop] using hG.own, by have := HLL.out; have := HE.out; simp only [List.length_append]; omega⟩
  have HS2 : Hid (Same w w2) := Lib.hid (new_only HS1.out hG.only (fun k hk => by have h' : g1 = k := hk; have := HG.out; omega))
  have HG3 : Hid (w.heap.size ≤ g3 ∧ g3 ≠ g2 ∧ g3 < w2.heap.size ∧ g2 < w2.heap.size) := Lib.hid (by
    have := HG.out; have := hG.only.size; have h4 := HM3.out.lt; have := HS1.out.size
    rcases hg3 with h | h <;> omega)
  have HM2 : Hid (Me w2 (some ⟨g2, 0, none⟩) j j (X.drop i)) := Lib.hid (OL.keep HU2.out hG.only (fun k hk h => by have h' : g2 = k := hk; have h'' : g1 = k := h; have := HG.out; omega))
  clear hG hg3
  go_wp2_with (at_builtin; refine wpList_append N2 ((X.drop i).map itv ++ (Y.drop k).map itv) rfl _ _ _ _ rfl slI rfl HM2.out.1 rfl ((HR2.out _ HS2.out).1.src Try.underlying34) HE.out.2.2 rfl (by unfold maxLen; omega) (by omega) ?_)
  intro a4 c4 w3 hG
  obtain ⟨g4, rfl, hg4⟩ := grew_some hG
  have HM4 : Hid (Me w3 (some ⟨g4, 0, none⟩) N2 c4 (X.drop i ++ Y.drop k)) := Lib.hid ⟨by rw [List.map_append]; simpa only [List.map_take, List.map_drop] using hG.own, by have := HLL.out; have := HE.out; simp only [List.length_append]; omega⟩
  have HS3 : Hid (Same w w3) := Lib.hid (new_only HS2.out hG.only (fun k hk => by have h' : g2 = k := hk; have := HG.out; omega))
  have HM3' : Hid (Me w3 (some ⟨g3, 0, none⟩) N1 c3 (X.take i ++ Y.take k)) := Lib.hid (OL.keep HM3.out hG.only (fun k hk h => by have h' : g3 = k := hk; have h'' : g2 = k := h; have := HG3.out; omega))
  have HG4 : Hid (w.heap.size ≤ g4 ∧ g3 ≠ g4) := Lib.hid (by
    have := HG.out; have := HG3.out; have := HS2.out.size
    rcases hg4 with h | h <;> omega)
  have hb3 := HM3.out.bound
  have hb4 := HM4.out.bound
  clear hG hg4
  have HSM : Hid (Calls Try.prog 18 #[.slice (some ⟨g3, 0, none⟩) N1 c3, .int .i64 0, .int .i64 (i : Int), .int .i64 (N1 : Int)] w3 (SmP 0 N1 g3 N1 c3 (X.take i ++ Y.take k) w3)) := Lib.hid (symMerge N1 0 i N1 g3 N1 c3 _ w3 (by omega) HM3'.out
    (by have := srt_left (Y.take k) HH.out.2.1; rwa [HLL.out.1] at this) (by have := srt_right (X.take i) HH.out.2.2.1; rwa [HLL.out.1, HLL.out.2.2.1, HE.out.2.1] at this) (Nat.zero_le _) (by have := HE.out; omega) (Nat.le_refl _) (by omega))
  go_wp2_with (go_at_call 18; with_reducible refine HSM.out.mono ?_)
  rintro e w4 h3
  obtain ⟨rfl, L1, mv1, so1, hr1, hO4⟩ : e = .returned (.tuple #[]) ∧ ∃ L', Mv 0 N1 (X.take i ++ Y.take k) L' ∧ Srt 0 N1 L' ∧ Me w4 (some ⟨g3, 0, none⟩) N1 c3 L' ∧ Only (At (some ⟨g3, 0, none⟩)) w3 w4 := h3
  have HM4' : Hid (Me w4 (some ⟨g4, 0, none⟩) N2 c4 (X.drop i ++ Y.drop k)) := Lib.hid (OL.keep HM4.out hO4 (fun k hk h => by have h' : g4 = k := hk; have h'' : g3 = k := h; have := HG4.out; omega))
  have HS4 : Hid (Same w w4) := Lib.hid (new_only HS3.out hO4 (fun k hk => by have h' : g3 = k := hk; have := HG3.out; omega))
  have H1 := Lib.hid (And.intro (And.intro mv1 so1) hr1)
  clear mv1 so1 hr1 hO4 HSM
  have HSM : Hid (Calls Try.prog 18 #[.slice (some ⟨g4, 0, none⟩) N2 c4, .int .i64 0, .int .i64 (j : Int), .int .i64 (N2 : Int)] w4 (SmP 0 N2 g4 N2 c4 (X.drop i ++ Y.drop k) w4)) := Lib.hid (symMerge N2 0 j N2 g4 N2 c4 _ w4 (by omega) HM4'.out
    (by have := srt_left (Y.drop k) HH.out.2.2.2.1; rwa [HLL.out.2.1] at this) (by have := srt_right (X.drop i) HH.out.2.2.2.2.1; rwa [HLL.out.2.1, HLL.out.2.2.2, HE.out.2.2] at this) (Nat.zero_le _) (by have := HE.out; omega) (Nat.le_refl _) (by omega))
  go_wp2_with (go_at_call 18; with_reducible refine HSM.out.mono ?_)
  rintro e w5 h3
  obtain ⟨rfl, L2, mv2, so2, hr2, hO5⟩ : e = .returned (.tuple #[]) ∧ ∃ L', Mv 0 N2 (X.drop i ++ Y.drop k) L' ∧ Srt 0 N2 L' ∧ Me w5 (some ⟨g4, 0, none⟩) N2 c4 L' ∧ Only (At (some ⟨g4, 0, none⟩)) w4 w5 := h3
  have HM5 : Hid (Me w5 (some ⟨g3, 0, none⟩) N1 c3 L1) := Lib.hid (OL.keep H1.out.2 hO5 (fun k hk h => by have h' : g3 = k := hk; have h'' : g4 = k := h; have := HG4.out; omega))
  have HS5 : Hid (Same w w5) := Lib.hid (new_only HS4.out hO5 (fun k hk => by have h' : g4 = k := hk; have := HG4.out; omega))
  have H2 := Lib.hid (And.intro (And.intro mv2 so2) hr2)
  clear mv2 so2 hr2 hO5 HSM
  have HNN := Lib.hid hN
  clear hN
  go_wp2_with (at_builtin; refine wpList_append N (L1.map itv ++ L2.map itv) rfl _ _ _ _ rfl slI rfl HM5.out.1 rfl (H2.out.2.1.rd.src Try.underlying34) HNN.out rfl (by unfold maxLen; have := HNN.out; omega) (by have := HNN.out; omega) ?_)
  intro a6 c6 w6 hG
  have hl1 := H1.out.2.2
  have hl2 := H2.out.2.2
  have hlen : (L1 ++ L2).length = N := by rw [List.length_append, hl1, hl2]; exact HNN.out
  have HF : Hid (SyP U W (S2b gu gw) w (.returned (.slice a6 N c6)) w6) := Lib.hid
    ⟨a6, c6, L1 ++ L2, by rw [hlen], by rw [hlen]; exact ⟨by rw [List.map_append]; exact hG.own.rd, hlen⟩,
      sorted_append (srt_to (by rw [hl1]; exact H1.out.1.2)) (srt_to (by rw [hl2]; exact H2.out.1.2)) (fun x hx y hy => HH.out.1 x (H1.out.1.1.perm.mem_iff.1 hx) y (H2.out.1.1.perm.mem_iff.1 hy)),
      ((H1.out.1.1.perm.append H2.out.1.1.perm).trans HH.out.2.2.2.2.2.1).trans HX.out.2.2.2.2,
      (new_only HS5.out hG.only (fun k hk => by have h' : g3 = k := hk; have := HG3.out; omega)).mono (fun _ _ f => f.elim)⟩
  clear hG hl1 hl2 hlen
  go_wp2_with fail
  go_ret
  exact HF.out

theorem symM (gu gw nu nw cu cw : Nat) (U W : List It) (w : World) (hU : Me w (some ⟨gu, 0, none⟩) nu cu U) (hW : Me w (some ⟨gw, 0, none⟩) nw cw W) (su : Sorted U) (sw : Sorted W) (h4 : nu ≤ 60) (h5 : nw ≤ 60) :
    Calls Try.prog 12 #[.slice (some ⟨gu, 0, none⟩) nu cu, .slice (some ⟨gw, 0, none⟩) nw cw] w (SyP U W (S2b gu gw) w) := by
  by_cases c0 : nu = 0 ∨ nw = 0
  · exact symA gu gw nu nw cu cw U W w hU hW su sw c0
  by_cases c1 : nu ≤ nw + 1 ∧ nw ≤ nu + 1
  · exact symB gu gw nu nw cu cw U W w hU hW su sw (by omega) (by omega) c1.1 c1.2 h4 h5
  by_cases c2 : nu < nw
  · exact symC gu gw nu nw cu cw U W w hU hW su sw nu nw cu cw gu gw U W (.inl ⟨rfl, rfl, rfl, rfl, rfl, rfl, rfl, rfl⟩) (by omega) (by omega) h5
  · exact symC gu gw nu nw cu cw U W w hU hW su sw nw nu cw cu gw gu W U (.inr ⟨rfl, rfl, rfl, rfl, rfl, rfl, rfl, rfl⟩) (by omega) (by omega) h4
end Go.Proofs.Ytceonnacpakjhaa.mg

/-
  pqAll: the walk.
-/
import Derived.Test.YtggnhadmfkhflaaDoorPqAll
import Derived.IntWalk
namespace Go.Proofs.YtggnhadmfkhflaaDoor.pq
open Go.RowKit Go.Proofs.YtggnhadmfkhflaaDoor.base Go.Proofs.YtggnhadmfkhflaaDoor.heap Go.Proofs.YtggnhadmfkhflaaDoor.rows
set_option linter.unusedVariables false
theorem slSt : SliceOf Tryd.prog 25 24 3 40 := SliceOf.mk (z := .agg #[.int .i64 0, .int .i64 0, .slice none 0 0]) Tryd.underlying25 (by kernel_rfl) rfl

def AllPost (w : World) (l : List Sl) (e : Ending) (w' : World) : Prop :=
  ∃ ra rc R, e = .returned (.tuple #[.slice ra R.length rc, .bool true]) ∧ RIt w' ra R.length rc R ∧ Srt R ∧ R.Perm (l.flatMap (·.R)) ∧ Same w w' ∧ ∀ j, At ra j → w.heap.size ≤ j

/-- the steps so far -/
structure Sts (w wr : World) (sa : Option Addr) (k sc : Nat) (P : List Stp) : Prop where
  row : OS 24 stc 3 wr sa k sc P
  same : Same w wr
  new : ∀ j, At sa j → w.heap.size ≤ j

theorem Sts.grew {w wr w2 : World} {sa sa2 : Option Addr} {k sc sc2 : Nat} {P : List Stp} (h : Sts w wr sa k sc P) {w1 : World} (h1 : Same wr w1) {m : Nat} {Q : List Stp} (hq : Q.length = m) (hG : Grew 24 3 w1 w2 sa sa2 m (k + m) sc sc2 (P.flatMap stc ++ Q.flatMap stc)) : Sts w w2 sa2 (k + m) sc2 (P ++ Q) := by
  have hO : Only (At sa) wr w2 := Only.trans (S := At sa) (h1.mono (fun _ _ h => h.elim)) hG.only (fun _ _ h => h)
  have := h.same.size
  have := h1.size
  refine ⟨⟨by rw [List.flatMap_append]; exact hG.own, by rw [List.length_append, h.row.2, hq]⟩, new_only h.same hO h.new, fun j hj => ?_⟩
  rcases hG.fresh j hj with h' | h'
  · exact h.new j h'
  · omega

set_option maxRecDepth 100000 in
set_option maxHeartbeats 3200000 in
theorem pqAll (a : Option Addr) (n cap : Nat) (l : List Sl) (w : World) (h : RL slv w a n cap l) (hn : n ≤ 10) (hs : Sls w l) (hm : ∀ s ∈ l, s.m ≤ 30) :
    Calls Tryd.prog 6 #[.bool true, .slice a n cap] w (AllPost w l) := by
  have hbd := h.bound
  have HR := Lib.hid h
  have HS := Lib.hid hs
  have HM := Lib.hid hm
  clear h hs hm
  go_enter Tryd.func6, Tryd.ntmps6
  go_wp2_with fail
  go_loopw [6, 14] (fun o i wr => ∃ (j k : Nat) (sa : Option Addr) (sc : Nat), o = .slice sa k sc ∧ i = .int .i64 (j : Int) ∧ j ≤ n ∧ k ≤ j ∧ Hid (Sts w wr sa k sc (stps (l.take j)))) (fun _ i _ => n - (intOf i).toNat)
  case atStart => exact ⟨0, 0, none, 0, rfl, rfl, Nat.zero_le _, Nat.zero_le _, Lib.hid ⟨OS.nil _ _ _ _, Only.refl _ _, fun j hj => hj.elim⟩⟩
  case round =>
    obtain ⟨j, k, sa, sc, rfl, rfl, hj, hkj, HI⟩ := hrel
    have hbo := HI.out.row.bound
    by_cases hlt : j < n
    · have hlt' : (j : Int) < (n : Int) := by omega
      obtain ⟨b, off, ha, hb, hc⟩ := (HR.out.still HI.out.same).at (by omega)
      obtain ⟨s, hsk⟩ := HR.out.get hlt
      have c0 : wr.cell? ⟨b, off + j, none⟩ = some (.slice s.a s.m s.cap) := hc j s hsk
      have HSK := Lib.hid hsk
      subst ha
      clear hc hsk
      by_cases h0 : 0 < s.m
      · have h0' : (0 : Int) < (s.m : Int) := by omega
        go_wp2_with (at_builtin; refine wpList_append (k + 1) ((stps (l.take j)).flatMap stc ++ [put1 s].flatMap stc) rfl _ _ _ _ rfl slSt rfl (HI.out.row.1.keep (S := fun _ => False) (by repeat (first | exact Only.refl _ _ | apply Only.alloc | apply Only.drew)) (fun _ _ => id)) rfl (Src.row (size := 3) (cs := #[.int .i64 1, .int .i64 0, .slice s.a s.m s.cap]) (t := 24) (fr := (0, 0)) Tryd.underlying25 (by exact heap_alloc_new _ _) 1 1 rfl (by simp [Value.oneCell'])) rfl rfl (by unfold maxLen; omega) (by omega) ?_)
        intro sa2 sc2 w2 hG
        have HI2 : Hid (Sts w w2 sa2 (k + 1) sc2 (stps (l.take (j + 1)))) := Lib.hid (by
          rw [stps_snoc l j s HSK.out, if_pos h0]
          exact HI.out.grew ((Only.refl _ _).alloc _) rfl hG)
        clear hG
        go_wp2_with fail
        go_roundw
        case rel => exact ⟨j + 1, k + 1, sa2, sc2, rfl, by go_num, by omega, by omega, HI2⟩
        case measure => simp [intOf]; omega
      · have h0' : ¬ (0 : Int) < (s.m : Int) := by omega
        have HI2 : Hid (Sts w wr sa k sc (stps (l.take (j + 1)))) := Lib.hid (by
          rw [stps_snoc l j s HSK.out, if_neg h0, List.append_nil]
          exact HI.out)
        go_wp2_with fail
        go_roundw
        case rel => exact ⟨j + 1, k, sa, sc, rfl, by go_num, by omega, by omega, HI2⟩
        case measure => simp [intOf]; omega
    · have hlt' : ¬ (j : Int) < (n : Int) := by omega
      obtain rfl : j = n := by omega
      have hlt2 : l.take j = l := List.take_of_length_le (by rw [HR.out.2]; exact Nat.le_refl _)
      rw [hlt2] at HI
      have HKL : Hid ((stps l).length = k) := Lib.hid HI.out.row.2
      clear hlt2
      by_cases hk0 : k = 0
      · subst hk0
        go_wp2_with fail
        go_ret2
        have h1 := stps_R l w HS.out
        rw [List.eq_nil_of_length_eq_zero HKL.out] at h1
        exact ⟨none, 0, [], rfl, RS.nil _ _ _, fun i j x y _ hx => by simp at hx, by rw [← h1]; simp, HI.out.same, fun j hj => hj.elim⟩
      · have hk1 : ((k : Int) == 0) = false := by simp; omega
        have hk2 : (k == 0) = false := by simp; omega
        go_wp2_with (at_builtin; refine wpList_append (k + 2) ((stps l).flatMap stc ++ [(⟨2, 1000, none, 0, 0, []⟩ : Stp), ⟨4, 0, none, 0, 0, []⟩].flatMap stc) rfl _ _ _ _ rfl slSt rfl (HI.out.row.1.keep (S := fun _ => False) (by repeat (first | exact Only.refl _ _ | apply Only.alloc | apply Only.drew)) (fun _ _ => id)) rfl (Src.row (size := 3) (cs := #[.int .i64 2, .int .i64 1000, .slice none 0 0, .int .i64 4, .int .i64 0, .slice none 0 0]) (t := 24) (fr := (0, 0)) Tryd.underlying25 (by exact heap_alloc_new _ _) 2 2 rfl (by simp [Value.oneCell'])) rfl rfl (by unfold maxLen; omega) (by omega) ?_)
        intro sa2 sc2 w2 hG
        have HI2 : Hid (Sts w w2 sa2 (k + 2) sc2 (stps l ++ [⟨2, 1000, none, 0, 0, []⟩, ⟨4, 0, none, 0, 0, []⟩])) := Lib.hid (HI.out.grew ((Only.refl _ _).alloc _) rfl hG)
        clear hG hk1 hk2
        have HRUN : Hid (Calls Tryd.prog 5 #[.int .i64 0, .bool true, .slice sa2 (k + 2) sc2] w2 (RunPost w2 (stps l ++ [⟨2, 1000, none, 0, 0, []⟩, ⟨4, 0, none, 0, 0, []⟩]) (k + 2))) := Lib.hid (by
          have hsl := stps_len l
          have hkl := HKL.out
          have hlen := HR.out.2
          refine pqRun 0 (by omega) sa2 (k + 2) sc2 _ w2 HI2.out.row.rs (by omega) (fun s hs => ?_) ?_
          · rcases List.mem_append.1 hs with hs | hs
            · obtain ⟨x, hx, h0, rfl⟩ := stps_mem hs
              have hx1 := HS.out x hx
              have hx2 := HM.out x hx
              refine ⟨⟨⟨by show (1 : Int) ≤ 1; omega, by show (1 : Int) ≤ 5; omega⟩, fun _ => ⟨h0, by show x.m ≤ 1000; omega⟩, fun e => absurd e (by show ¬ (1 : Int) = 2; omega), hx1.2⟩, hx1.still HI2.out.same⟩
            · simp only [List.mem_cons, List.not_mem_nil, or_false] at hs
              rcases hs with rfl | rfl
              · exact ⟨⟨⟨by show (1 : Int) ≤ 2; omega, by show (2 : Int) ≤ 5; omega⟩, fun e => absurd e (by show ¬ (2 : Int) = 1; omega), fun _ => ⟨1000, rfl, by omega, by omega⟩, rfl⟩, RS.nil _ _ _⟩
              · exact ⟨⟨⟨by show (1 : Int) ≤ 4; omega, by show (4 : Int) ≤ 5; omega⟩, fun e => absurd e (by show ¬ (4 : Int) = 1; omega), fun e => absurd e (by show ¬ (4 : Int) = 2; omega), rfl⟩, RS.nil _ _ _⟩
          · rw [List.map_append, List.sum_append]
            have := sum_le (stps l) (fun s hs => by
              obtain ⟨x, hx, h0, rfl⟩ := stps_mem hs
              have := HM.out x hx
              show x.m ≤ 1000; omega)
            simp; omega)
        go_wp2_with fail
        refine HRUN.out.mono ?_
        rintro e w4 ⟨oa, oc, As, L, rfl, hrs, hits, hnew, hran, hs4⟩
        have hboc := hrs.bound
        have HX : Hid (RS anc 4 w4 oa (k + 2) oc As ∧ (∀ x ∈ As, RIt w4 x.a x.L.length x.cap x.L ∧ ∀ j, At x.a j → w2.heap.size ≤ j) ∧ Same w2 w4) := Lib.hid ⟨hrs, hits, hs4⟩
        obtain ⟨As0, x, y, hAs, hA0, herr, hnum, hsrt, hperm⟩ := Ran.all (P := stps l) (g := ⟨2, 1000, none, 0, 0, []⟩) (c := ⟨4, 0, none, 0, 0, []⟩) (by rw [List.append_assoc]; exact hran) (fun s hs => by obtain ⟨x, _, _, rfl⟩ := stps_mem hs; rfl) rfl rfl rfl
          (by
            cases hc : stps l with
            | nil => rw [hc] at HKL; have := HKL.out; simp at this; omega
            | cons s r =>
              have hsm : s ∈ stps l := by rw [hc]; simp
              obtain ⟨x, hx, h0, rfl⟩ := stps_mem hsm
              have := (HS.out x hx).2
              rw [List.flatMap_cons, List.length_append]
              show 0 < x.R.length + _
              omega)
          (by rw [stps_R l w HS.out]; have := flat_le l w HS.out HM.out; have := HR.out.2; omega)
        rw [stps_R l w HS.out] at hperm
        have HAS : Hid (As = As0 ++ [x] ++ [y] ∧ As0.length = k ∧ (∀ z ∈ As, z.err = 0)) := Lib.hid ⟨hAs, hA0.trans HKL.out, herr⟩
        have HF : Hid (Srt x.L ∧ x.L.Perm (l.flatMap (·.R)) ∧ y.num = 0) := Lib.hid ⟨hsrt, hperm, hnum⟩
        clear hAs hA0 herr hnum hsrt hperm hran hs4 hits hrs hnew HRUN
        go_wp2_with fail
        go_loopw [45] (fun i wx => ∃ q : Nat, q ≤ k + 2 ∧ i = .int .i64 (q : Int) ∧ Hid (Same w4 wx)) (fun i _ => k + 2 - (intOf i).toNat)
        case atStart => exact ⟨0, Nat.zero_le _, rfl, Lib.hid (Only.refl _ _)⟩
        case round =>
          obtain ⟨q, hq, rfl, HSW⟩ := hrel
          obtain ⟨b, off, ha, hb, hc⟩ := (HX.out.1.still HSW.out).at anc_len (by omega)
          subst ha
          by_cases hlt : q < k + 2
          · have hlt' : (q : Int) < (k : Int) + 2 := by omega
            obtain ⟨z, hz⟩ := HX.out.1.get hlt
            have hc2 := hc q z hz
            have c0 : wr.cell? ⟨b, off + q * 4, none⟩ = some (.slice z.a z.L.length z.cap) := hc2 0 _ rfl
            have c1 := hc2 1 _ rfl
            have c2 := hc2 2 _ rfl
            have c3 := hc2 3 _ rfl
            rw [HAS.out.2.2 z (List.mem_of_getElem? hz)] at c3
            clear hc hc2 hz
            go_wp2_with fail
            go_roundw
            case rel => exact ⟨q + 1, by omega, by go_num, Lib.hid (HSW.out.trans ((Only.refl _ _).alloc _))⟩
            case measure => simp [intOf]; omega
          · have hlt' : ¬ (q : Int) < (k : Int) + 2 := by omega
            obtain rfl : q = k + 2 := by omega
            have hxk : As[k]? = some x := by rw [HAS.out.1, List.append_assoc, List.getElem?_append_right (by rw [HAS.out.2.1]; exact Nat.le_refl _), HAS.out.2.1, Nat.sub_self]; rfl
            have hyk : As[k + 1]? = some y := by rw [HAS.out.1, List.append_assoc, List.getElem?_append_right (by rw [HAS.out.2.1]; omega), HAS.out.2.1, show k + 1 - k = 1 by omega]; rfl
            have c0 : wr.cell? ⟨b, off + k * 4, none⟩ = some (.slice x.a x.L.length x.cap) := hc k x hxk 0 _ rfl
            have c1 : wr.cell? ⟨b, off + (k + 1) * 4 + 1, none⟩ = some (.int .i64 0) := by have := hc (k + 1) y hyk 1 _ rfl; rw [HF.out.2.2] at this; exact this
            have i0 : (0 : Int) ≤ (k : Int) := by omega
            have i1 : (k : Int) < (k : Int) + 2 := by omega
            have i2 : (0 : Int) ≤ (k : Int) + 1 := by omega
            have i3 : (k : Int) + 1 < (k : Int) + 2 := by omega
            have i4 : ((k : Int) + 1).toNat = k + 1 := by omega
            have i5 : IntKind.i64.wrap ((k : Int) + 1) = (k : Int) + 1 := IntWalk.i64_in _ (by omega)
            have HXM := Lib.hid (List.mem_of_getElem? hxk)
            clear hc hxk hyk
            go_wp2_with fail
            go_quiet (fail)
            go_wp2_with fail
            go_ret2
            have hsm : Same w (wr.drewN nq) := ((HI2.out.same.trans HX.out.2.2).trans HSW.out).drewN _
            exact ⟨x.a, x.cap, x.L, rfl, ((HX.out.2.1 x HXM.out).1.still HSW.out).still ((Only.refl _ _).drewN _), HF.out.1, HF.out.2.1, hsm, fun i hi => Nat.le_trans HI2.out.same.size ((HX.out.2.1 x HXM.out).2 i hi)⟩
end Go.Proofs.YtggnhadmfkhflaaDoor.pq

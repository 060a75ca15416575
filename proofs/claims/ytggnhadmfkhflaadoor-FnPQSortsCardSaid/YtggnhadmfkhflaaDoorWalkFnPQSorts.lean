/-
  FnPQSorts: the walk.
-/
import Derived.Test.YtggnhadmfkhflaaDoorPqFirst
import Derived.Test.YtggnhadmfkhflaaDoorPqEq
import Derived.Test.YtggnhadmfkhflaaDoorCut
import Derived.Deep.RegionLaw
import Derived.IntWalk
import Derived.Deep.CutRange
import Derived.Deep.DeepCutAuto
namespace Go.Proofs.YtggnhadmfkhflaaDoor.walkFnPQSorts
open Go.RowKit Go.Proofs.YtggnhadmfkhflaaDoor.base Go.Proofs.YtggnhadmfkhflaaDoor.heap Go.Proofs.YtggnhadmfkhflaaDoor.rows Go.Proofs.YtggnhadmfkhflaaDoor.pq
set_option linter.unusedVariables false

/-- all so far -/
structure Coll (w wr : World) (aa : Option Addr) (t ac : Nat) (A : List It) : Prop where
  row : OS 34 itc 2 wr aa t ac A
  same : Same w wr
  new : ∀ k, At aa k → w.heap.size ≤ k
theorem flat_take (l : List Sl) (k : Nat) (s : Sl) (h : l[k]? = some s) : (l.take (k + 1)).flatMap (·.R) = (l.take k).flatMap (·.R) ++ s.R := by
  rw [take_snoc l k s h]; simp

set_option maxRecDepth 100000 in
set_option maxHeartbeats 3200000 in
theorem main (a : Option Addr) (n cap : Nat) (l : List Sl) (w : World) (h : RL slv w a n cap l) (hs : Sls w l) :
    Calls Tryd.prog 4 #[.slice a n cap] w fun e w' => e = .returned (.bool true) ∧ Below w.heap.size w w' := by
  have hbd := h.bound
  have HF := Lib.hid (fits14 a n cap l w h (fun s hs' => (hs s hs').bound))
  have HR := Lib.hid h
  have HS := Lib.hid hs
  clear h hs
  go_enter Tryd.func4, Tryd.ntmps4
  go_wp2_with fail
  refine HF.out.mono ?_
  rintro e w1 ⟨t, rfl, ht, hs1⟩
  have HS1 := Lib.hid hs1
  have HT := Lib.hid ht
  clear hs1 ht HF
  cases t with
  | false =>
    go_wp2_with fail
    go_ret
    exact ⟨rfl, Only.below HS1.out (Nat.le_refl _) (fun _ _ => id)⟩
  | true =>
    have hn31 : n ≤ 2147483647 := (HT.out rfl).1
    have HM : Hid (∀ s ∈ l, s.m ≤ 2147483647) := Lib.hid (HT.out rfl).2
    clear HT
    go_wp2_with fail
    go_loopw [3, 16] (fun o i wr => ∃ (j t : Nat) (aa : Option Addr) (ac : Nat), o = .slice aa t ac ∧ i = .int .i64 (j : Int) ∧ j ≤ n ∧ t ≤ 30 * j ∧ Hid (Coll w wr aa t ac ((l.take j).flatMap (·.R)) ∧ ∀ s ∈ l.take j, s.m ≤ 30)) (fun _ i _ => n - (intOf i).toNat)
    case atStart => exact ⟨0, 0, none, 0, rfl, rfl, Nat.zero_le _, Nat.zero_le _, Lib.hid ⟨⟨OS.nil _ _ _ _, HS1.out, fun j hj => hj.elim⟩, fun s hs => by simp at hs⟩⟩
    case round =>
      obtain ⟨j, t, aa, ac, rfl, rfl, hj, htj, HI⟩ := hrel
      have hbo := HI.out.1.row.bound
      by_cases hlt : j < n
      · have hlt' : (j : Int) < (n : Int) := by omega
        obtain ⟨b, off, ha, hb, hc⟩ := (HR.out.still HI.out.1.same).at (by omega)
        obtain ⟨s, hsk⟩ := HR.out.get hlt
        have c0 : wr.cell? ⟨b, off + j, none⟩ = some (.slice s.a s.m s.cap) := hc j s hsk
        have HSK := Lib.hid hsk
        have hsm := HM.out s (List.mem_of_getElem? hsk)
        have HSR := Lib.hid ((HS.out s (List.mem_of_getElem? hsk)).still HI.out.1.same)
        subst ha
        clear hc hsk
        go_wp2_with (at_builtin; refine wpList_append (t + s.m) (((l.take j).flatMap (·.R)).flatMap itc ++ s.R.flatMap itc) rfl _ _ _ _ rfl slIt rfl HI.out.1.row.1 rfl (HSR.out.1.src Tryd.underlying22) rfl rfl (by unfold maxLen; omega) (by omega) ?_)
        intro aa2 ac2 w2 hG
        have HI2 : Hid (Coll w w2 aa2 (t + s.m) ac2 ((l.take (j + 1)).flatMap (·.R))) := Lib.hid (by
          have hi := HI.out.1
          have hsz := hi.same.size
          refine ⟨⟨?_, ?_⟩, new_only hi.same hG.only hi.new, fun k hk => ?_⟩
          · rw [flat_take l j s HSK.out, List.flatMap_append]; exact hG.own
          · rw [flat_take l j s HSK.out, List.length_append, hi.row.2, HSR.out.2]
          · rcases hG.fresh k hk with h | h
            · exact hi.new k h
            · omega)
        clear hG
        by_cases h30 : s.m ≤ 30
        · have h30' : ¬ (30 : Int) < (s.m : Int) := by omega
          have HI3 : Hid (Coll w w2 aa2 (t + s.m) ac2 ((l.take (j + 1)).flatMap (·.R)) ∧ ∀ x ∈ l.take (j + 1), x.m ≤ 30) := Lib.hid ⟨HI2.out, fun x hx => by
            rw [take_snoc l j s HSK.out] at hx
            rcases List.mem_append.1 hx with hx | hx
            · exact HI.out.2 x hx
            · simp at hx; subst hx; exact h30⟩
          go_wp2_with fail
          go_roundw
          case rel => exact ⟨j + 1, t + s.m, aa2, ac2, rfl, by go_num, by omega, by omega, HI3⟩
          case measure => simp [intOf]; omega
        · have h30' : (30 : Int) < (s.m : Int) := by omega
          go_wp2_with fail
          go_ret
          exact ⟨rfl, Only.below HI2.out.same (Nat.le_refl _) (fun _ _ => id)⟩
      · have hlt' : ¬ (j : Int) < (n : Int) := by omega
        obtain rfl : j = n := by omega
        have hlt2 : l.take j = l := List.take_of_length_le (by rw [HR.out.2]; exact Nat.le_refl _)
        rw [hlt2] at HI
        clear hlt2
        by_cases h10 : j ≤ 10
        · have h10' : ¬ (10 : Int) < (j : Int) := by omega
          have HALL := Lib.hid (pqAll a j cap l wr (HR.out.still HI.out.1.same) h10 (HS.out.still HI.out.1.same) HI.out.2)
          go_wp2_with fail
          refine HALL.out.mono ?_
          rintro e w3 ⟨ra, rc, R, rfl, hrr, hsr, hpr, hs3, hnr⟩
          have hlen : R.length = t := by rw [hpr.length_eq]; exact HI.out.1.row.2
          have hrr' : RIt w3 ra t rc R := by rw [← hlen]; exact hrr
          rw [hlen]
          have HX : Hid (RIt w3 ra t rc R ∧ Srt R ∧ R.Perm (l.flatMap (·.R)) ∧ Same w w3) := Lib.hid ⟨hrr', hsr, hpr, HI.out.1.same.trans hs3⟩
          have HA0 : Hid (RIt w3 aa t ac (l.flatMap (·.R))) := Lib.hid (HI.out.1.row.rs.still hs3)
          have hbr := hrr'.bound
          have n1 : ((t : Int) != (t : Int)) = false := by simp
          clear hrr hsr hpr hs3 hnr hlen hrr' HALL HI
          go_wp2_with fail
          clear n1
          go_loopw [3, 46] (fun o i wr => ∃ (q m : Nat) (A : List It) (aa : Option Addr) (ac : Nat), o = .slice aa m ac ∧ i = .int .i64 (q : Int) ∧ q ≤ t ∧ q + m = t ∧ Hid (RIt wr aa m ac A ∧ A.Perm (R.drop q) ∧ Same w3 wr)) (fun _ i _ => t - (intOf i).toNat)
          case atStart => exact ⟨0, t, _, aa, ac, rfl, rfl, Nat.zero_le _, by omega, Lib.hid ⟨HA0.out, by rw [List.drop_zero]; exact HX.out.2.2.1.symm, Only.refl _ _⟩⟩
          case round =>
            clear HA0
            obtain ⟨q, m, A, aa, ac, rfl, rfl, hq, hqm, HJ⟩ := hrel
            have hbo := HJ.out.1.bound
            by_cases hlt : q < t
            · have hlt' : (q : Int) < (t : Int) := by omega
              obtain ⟨rb, ro, hra, hrb, hrc⟩ := (HX.out.1.still HJ.out.2.2).at itc_len (by omega)
              obtain ⟨⟨kx, tx⟩, hx⟩ := HX.out.1.get hlt
              have c0 : wr.cell? ⟨rb, ro + q * 2, none⟩ = some (.int .i64 kx) := hrc q _ hx 0 _ rfl
              have c1 : wr.cell? ⟨rb, ro + q * 2 + 1, none⟩ = some (.int .i64 tx) := hrc q _ hx 1 _ rfl
              have HXQ := Lib.hid hx
              have HRA := Lib.hid hra
              subst hra
              clear hrc hx
              have hxA : ∃ p : Nat, A[p]? = some (⟨kx, tx⟩ : It) := by
                have h1 : (⟨kx, tx⟩ : It) ∈ R.drop q := List.mem_of_getElem? (i := 0) (by rw [List.getElem?_drop]; exact HXQ.out)
                exact List.mem_iff_getElem?.1 (HJ.out.2.1.mem_iff.2 h1)
              have HXA := Lib.hid hxA
              clear hxA
              go_wp2_with fail
              obtain ⟨w6, HW6⟩ : ∃ w6, Hid ((wr.alloc (.cells #[.int .i64 kx, .int .i64 tx] 34)) = w6) := ⟨_, Lib.hid rfl⟩
              obtain ⟨xb, HXB⟩ : ∃ xb, Hid (wr.heap.size = xb) := ⟨_, Lib.hid rfl⟩
              have HS6 : Hid (Same wr w6) := Lib.hid (by rw [← HW6.out]; exact (Only.refl _ _).alloc _)
              have HB6 : Hid (w6.heap[xb]? = some (.cells #[.int .i64 kx, .int .i64 tx] 34 (0, 0))) := Lib.hid (by rw [← HW6.out, ← HXB.out]; exact heap_alloc_new _ _)
              rw [HW6.out, HXB.out]
              clear HW6 HXB
              go_loopw [10] (fun i wx => ∃ d : Nat, i = .int .i64 (d : Int) ∧ d < m ∧ Hid ((∀ e : Nat, e < d → A[e]? ≠ some (⟨kx, tx⟩ : It)) ∧ Same w6 wx)) (fun i _ => m - (intOf i).toNat)
              case atStart => exact ⟨0, rfl, by omega, Lib.hid ⟨fun e he => absurd he (by omega), Only.refl _ _⟩⟩
              case round =>
                obtain ⟨d, rfl, hd, HD⟩ := hrel
                have hd' : (d : Int) < (m : Int) := by omega
                have hd0 : (0 : Int) ≤ (d : Int) := by omega
                obtain ⟨⟨ky, ty⟩, hy⟩ := HJ.out.1.get hd
                have HAW := Lib.hid ((HJ.out.1.still HS6.out).still HD.out.2)
                obtain ⟨ab, ao, haa, hab, hac⟩ := HAW.out.at itc_len (by omega)
                have a0 : wr.cell? ⟨ab, ao + d * 2, none⟩ = some (.int .i64 ky) := hac d _ hy 0 _ rfl
                have a1 : wr.cell? ⟨ab, ao + d * 2 + 1, none⟩ = some (.int .i64 ty) := hac d _ hy 1 _ rfl
                have x0 : wr.cell? ⟨xb, 0, none⟩ = some (.int .i64 kx) := block_cell (heap_still HD.out.2 HB6.out) rfl
                have x1 : wr.cell? ⟨xb, 1, none⟩ = some (.int .i64 tx) := block_cell (heap_still HD.out.2 HB6.out) rfl
                have HY := Lib.hid hy
                subst haa
                clear hac hy
                by_cases he : ky = kx ∧ ty = tx
                · have hne : ∀ w, (binOp .neq 34 (.agg #[.int .i64 ky, .int .i64 ty]) (.agg #[.int .i64 kx, .int .i64 tx])).run Tryd.prog w = .ok (.bool false) w := fun w => by rw [neqS, he.1, he.2]; simp
                  have HE := Lib.hid he
                  clear he
                  go_wp2_with fail
                  go_quiet (fail)
                  have m1 : ((d : Int) == (m : Int)) = false := by simp; omega
                  have m2 : (d == m) = false := by simp; omega
                  have m3 : decide ((d : Int) = (m : Int)) = false := by simp; omega
                  clear hne
                  go_upto_region 22 with fail
                  generalize hWD : wr.drewN _ = wd
                  have HWD : Hid (Same wr wd) := Lib.hid (by rw [← hWD]; exact (Only.refl _ _).drewN _)
                  have hcs : ∀ {p : Addr} {y : Value}, wr.cell? p = some y → wd.cell? p = some y := fun {p y} hp => (HWD.out.cell (World.block_lt_of_cell? wr _ hp) id).trans hp
                  clear hWD
                  replace a0 := hcs a0
                  replace a1 := hcs a1
                  replace x0 := hcs x0
                  replace x1 := hcs x1
                  clear hcs
                  go_cut [83] (fun v wx => v = .bool false ∧ Hid (Same wd wx))
                  case first =>
                    rcases Nat.eq_zero_or_pos q with h0 | h0
                    · have h1 : decide ((0 : Int) < (q : Int)) = false := by simp; omega
                      have h2 : decide (0 < q) = false := by simp; omega
                      go_quiet (fail)
                      go_wp2_with fail
                      go_meet
                      exact ⟨rfl, Lib.hid ((Only.refl _ _).drewN _)⟩
                    · obtain ⟨q1, hq1⟩ : ∃ q1, q = q1 + 1 := ⟨q - 1, by omega⟩
                      have h1 : (0 : Int) < (q : Int) := by omega
                      have h2 : (q : Int) - 1 = (q1 : Int) := by omega
                      have h3 : IntKind.i64.wrap (q1 : Int) = (q1 : Int) := IntWalk.i64_in _ (by omega)
                      have h4 : (0 : Int) ≤ (q1 : Int) := by omega
                      have h5 : (q1 : Int) < (t : Int) := by omega
                      obtain ⟨⟨kp, tp⟩, hp⟩ := HX.out.1.get (show q1 < t by omega)
                      obtain ⟨rb', ro', e', _, hrc⟩ := (((HX.out.1.still HJ.out.2.2).still HS6.out).still (HD.out.2.trans HWD.out)).at itc_len (by omega)
                      cases e'
                      have p0 : wd.cell? ⟨rb, ro + q1 * 2, none⟩ = some (.int .i64 kp) := hrc q1 _ hp 0 _ rfl
                      have p1 : kp ≤ kx := HX.out.2.1 q1 q _ _ (by omega) hp HXQ.out
                      have p2 : ¬ kx < kp := by omega
                      have p3 : decide (kx < kp) = false := by simp; omega
                      clear hrc hp hq1
                      go_quiet (fail)
                      go_wp2_with fail
                      go_meet
                      exact ⟨rfl, Lib.hid ((Only.refl _ _).drewN _)⟩
                  case rest =>
                    obtain ⟨rfl, HC⟩ := hcut
                    obtain ⟨w8, hw8⟩ : ∃ w8, w8 = wc := ⟨_, rfl⟩
                    rw [← hw8] at HC ⊢
                    clear hw8
                    have HSM8 : Hid (Same w3 w8) := Lib.hid ((HJ.out.2.2.trans HS6.out).trans (HD.out.2.trans (HWD.out.trans HC.out)))
                    have HA8 : Hid (RIt w8 (some ⟨ab, ao, none⟩) m ac A) := Lib.hid (HAW.out.still (HWD.out.trans HC.out))
                    have b1 : (d : Int) + 1 ≤ (m : Int) := by omega
                    have b2 : (d : Int) ≤ (ac : Int) := by omega
                    have b3 : (0 : Int) ≤ (d : Int) + 1 := by omega
                    have b4 : (m : Int) ≤ (ac : Int) := by omega
                    have b5 : IntKind.i64.wrap ((d : Int) + 1) = (d : Int) + 1 := IntWalk.i64_in _ (by omega)
                    have b6 : ((d : Int) + 1).toNat = d + 1 := by omega
                    have b7 : (d : Int) ≤ (d : Int) + 1 := by omega
                    have b8 : (d : Int) + 1 ≤ (ac : Int) := by omega
                    clear a0 a1 x0 x1 m1 m2 m3
                    have hm30 : m ≤ 300 := by omega
                    have HAT : Hid (Rd 2 w8.drew (some ⟨ab, ao, none⟩) d d ((A.take d).flatMap itc)) := Lib.hid (by
                      rw [flatMap_take itc_len]
                      exact (HA8.out.1.take (by omega) (Nat.le_refl _) (by omega)).drew)
                    have HNEW : Hid ((A.take d ++ A.drop (d + 1)).Perm (R.drop (q + 1)) ∧ (A.take d ++ A.drop (d + 1)).length = d + (m - (d + 1))) := Lib.hid (by
                      have hl := HJ.out.1.2
                      constructor
                      · have hy := HY.out
                        obtain ⟨rfl, rfl⟩ := HE.out
                        have e1 : A = A.take d ++ ⟨ky, ty⟩ :: A.drop (d + 1) := by
                          have h1 := List.getElem?_eq_some_iff.1 hy
                          obtain ⟨h2, h3⟩ := h1
                          rw [← h3]
                          exact (List.take_append_drop d A).symm.trans (by rw [List.drop_eq_getElem_cons h2])
                        have e2 : R.drop q = ⟨ky, ty⟩ :: R.drop (q + 1) := by
                          obtain ⟨h2, h3⟩ := List.getElem?_eq_some_iff.1 HXQ.out
                          rw [List.drop_eq_getElem_cons h2, h3]
                        have hp := HJ.out.2.1
                        rw [e2] at hp
                        rw [e1] at hp
                        exact (List.perm_middle.symm.trans hp).cons_inv
                      · rw [List.length_append, List.length_take, List.length_drop, hl]; omega)
                    by_cases hcap : ac = d + 1
                    · have HSRC : Hid (Src Tryd.prog 2 22 (.slice (some ⟨ab, ao, none⟩) (m - (d + 1)) 0) (m - (d + 1)) ((A.drop (d + 1)).flatMap itc) w8.drew) := Lib.hid (by
                        have e : m - (d + 1) = 0 := by omega
                        have e2 : A.drop (d + 1) = [] := List.drop_eq_nil_of_le (by rw [HJ.out.1.2]; omega)
                        rw [e, e2]
                        exact Src.ofSlice _ Tryd.underlying22 _ 0 0 [] (by simp) (by simp) (by simp))
                      have hcap' : (ac : Int) = (d : Int) + 1 := by omega
                      go_wp2_with fail
                      go_region_law ((refine step_append_any (d + (m - (d + 1))) ((A.take d).flatMap itc ++ (A.drop (d + 1)).flatMap itc) (by rfl) _ _ _ _ (by rfl) slIt ?_ HAT.out ?_ HSRC.out rfl rfl (by unfold maxLen; omega) (by omega) ?_; (go_simp); (go_simp); intro aa2 ac2 w9 hG))
                      all_goals
                        have HJ2 : Hid (RIt w9 aa2 (d + (m - (d + 1))) ac2 (A.take d ++ A.drop (d + 1)) ∧ (A.take d ++ A.drop (d + 1)).Perm (R.drop (q + 1)) ∧ Same w3 w9) := Lib.hid ⟨⟨by rw [List.flatMap_append]; exact hG.rd, HNEW.out.2⟩, HNEW.out.1, Same.trans HSM8.out.drew hG.same⟩
                        clear hG
                        go_wp2_with fail
                        go_roundw
                        case rel => exact ⟨q + 1, d + (m - (d + 1)), _, aa2, ac2, rfl, by go_num, by omega, by omega, HJ2⟩
                        case measure => simp [intOf]; omega
                    · have HSRC : Hid (Src Tryd.prog 2 22 (.slice (some ⟨ab, ao + (d + 1) * 2, none⟩) (m - (d + 1)) (ac - (d + 1))) (m - (d + 1)) ((A.drop (d + 1)).flatMap itc) w8.drew) := Lib.hid (by
                        rw [flatMap_drop itc_len]
                        exact ((HA8.out.1.drop (by omega)).drew).src Tryd.underlying22)
                      have hcap' : ¬ (ac : Int) = (d : Int) + 1 := by omega
                      go_wp2_with fail
                      go_region_law ((refine step_append_any (d + (m - (d + 1))) ((A.take d).flatMap itc ++ (A.drop (d + 1)).flatMap itc) (by rfl) _ _ _ _ (by rfl) slIt ?_ HAT.out ?_ HSRC.out rfl rfl (by unfold maxLen; omega) (by omega) ?_; (go_simp); (go_simp); intro aa2 ac2 w9 hG))
                      all_goals
                        have HJ2 : Hid (RIt w9 aa2 (d + (m - (d + 1))) ac2 (A.take d ++ A.drop (d + 1)) ∧ (A.take d ++ A.drop (d + 1)).Perm (R.drop (q + 1)) ∧ Same w3 w9) := Lib.hid ⟨⟨by rw [List.flatMap_append]; exact hG.rd, HNEW.out.2⟩, HNEW.out.1, Same.trans HSM8.out.drew hG.same⟩
                        clear hG
                        go_wp2_with fail
                        go_roundw
                        case rel => exact ⟨q + 1, d + (m - (d + 1)), _, aa2, ac2, rfl, by go_num, by omega, by omega, HJ2⟩
                        case measure => simp [intOf]; omega
                · have hne : ∀ w, (binOp .neq 34 (.agg #[.int .i64 ky, .int .i64 ty]) (.agg #[.int .i64 kx, .int .i64 tx])).run Tryd.prog w = .ok (.bool true) w := fun w => by
                    rw [neqS]
                    have : (ky == kx && ty == tx) = false := by
                      cases h1 : (ky == kx && ty == tx)
                      · rfl
                      · simp at h1; exact absurd h1 he
                    rw [this]; rfl
                  have HD2 : Hid ((∀ e : Nat, e < d + 1 → A[e]? ≠ some (⟨kx, tx⟩ : It)) ∧ d + 1 < m) := Lib.hid (by
                    have h1 : ∀ e : Nat, e < d + 1 → A[e]? ≠ some (⟨kx, tx⟩ : It) := fun e hed => by
                      by_cases h : e = d
                      · subst h
                        rw [HY.out]
                        intro h2
                        simp at h2
                        exact he h2
                      · exact HD.out.1 e (by omega)
                    refine ⟨h1, ?_⟩
                    obtain ⟨p, hp⟩ := HXA.out
                    have hpl := (List.getElem?_eq_some_iff.1 hp).1
                    rw [HJ.out.1.2] at hpl
                    have : ¬ p < d + 1 := fun h => h1 p h hp
                    omega)
                  clear he
                  go_wp2_with fail
                  go_quiet (fail)
                  go_wp2_with fail
                  go_roundw
                  case rel => exact ⟨d + 1, by go_num, HD2.out.2, Lib.hid ⟨HD2.out.1, HD.out.2.drewN _⟩⟩
                  case measure => simp [intOf]; omega
            · have hlt' : ¬ (q : Int) < (t : Int) := by omega
              go_wp2_with fail
              go_ret
              exact ⟨rfl, Only.below (HX.out.2.2.2.trans HJ.out.2.2) (Nat.le_refl _) (fun _ _ => id)⟩
        · have h10' : (10 : Int) < (j : Int) := by omega
          go_wp2_with fail
          go_ret
          exact ⟨rfl, Only.below HI.out.1.same (Nat.le_refl _) (fun _ _ => id)⟩
theorem walk (W : World) (v0 : Value) (r0 : Reads Tryd.prog W 30 v0) :
    Calls Tryd.prog 4 #[v0] W fun e w' => e = .returned (.bool true) ∧ Below W.heap.size W w' := by
  obtain ⟨a, n, cap, l, rfl, h, hs⟩ := read_lists r0
  exact main a n cap l W h hs
end Go.Proofs.YtggnhadmfkhflaaDoor.walkFnPQSorts

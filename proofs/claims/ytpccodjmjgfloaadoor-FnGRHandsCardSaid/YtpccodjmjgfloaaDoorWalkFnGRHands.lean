/-
  FnGRHands: the walk. The degrees of all vertices are together twice the number of edges.
-/
import Derived.Test.YtpccodjmjgfloaaDoorGrHand
namespace Go.Proofs.YtpccodjmjgfloaaDoor.walkFnGRHands
open Go.RowKit Go.Proofs.YtpccodjmjgfloaaDoor.base Go.Proofs.YtpccodjmjgfloaaDoor.heap Go.Proofs.YtpccodjmjgfloaaDoor.rows Go.Proofs.YtpccodjmjgfloaaDoor.gr
set_option linter.unusedVariables false

theorem seen_len (S : Sh) : ∀ (r s : List Int), (r.foldl (fun s v => if v ∈ S.map (·.1) ∧ v ∉ s then s ++ [v] else s) s).length ≤ s.length + r.length
  | [], s => Nat.le_refl _
  | x :: r, s => by
    rw [List.foldl_cons]
    split
    · have := seen_len S r (s ++ [x]); rw [List.length_append] at this; simp only [List.length_cons, List.length_nil] at *; omega
    · have := seen_len S r s; simp only [List.length_cons] at *; omega
theorem seenOf_len (S : Sh) (ends : List Int) : (seenOf S ends).length ≤ ends.length := by
  have := seen_len S ends []
  simpa [seenOf] using this
theorem degs_le (S : Sh) : ∀ vs : List Int, degs S vs ≤ vs.length * total S
  | [] => Nat.zero_le _
  | v :: vs => by
    have h1 := degs_le S vs
    have h2 := nbrs_le S v
    unfold degs at *
    simp only [List.map_cons, List.sum_cons, List.length_cons, Nat.succ_mul] at *
    omega
theorem degs_snoc (S : Sh) (vs : List Int) (v : Int) : degs S (vs ++ [v]) = degs S vs + (nbrs S v).length := by
  unfold degs; simp
theorem ends_len (l : List Ed) : (endsOf l).length = 2 * l.length := by
  induction l with
  | nil => rfl
  | cons p l ih => unfold endsOf at *; rw [List.flatMap_cons, List.length_append, ih]; simp; omega
theorem ends_take (l : List Ed) (k : Nat) (p : Ed) (h : l[k]? = some p) : endsOf (l.take (k + 1)) = endsOf (l.take k) ++ [p.1, p.2] := by
  rw [take_snoc l k p h]; unfold endsOf; rw [List.flatMap_append]; simp

set_option maxRecDepth 100000 in
set_option maxHeartbeats 6400000 in
theorem main (a : Option Addr) (n cap : Nat) (l : List Ed) (a0 a1 a2 : Addr) (w : World) (h : RE w a n cap l) (hE : Errs w a0 a1 a2) (hEf : ∀ k, errFoot a0 a1 a2 k → k < w.heap.size) :
    Calls Tryd.prog 4 #[.slice a n cap] w fun e w' => e = .returned (.bool true) ∧ Below w.heap.size w w' := by
  have hbd := h.1.bound
  by_cases hn1 : n ≤ 2147483647
  · have hn1' : ¬ (2147483647 : Int) < (n : Int) := by omega
    by_cases hn : n ≤ 30
    · have hn' : ¬ (30 : Int) < (n : Int) := by omega
      have HRUN := Lib.hid (grRun a n cap l a0 a1 a2 w h (by omega) hE hEf)
      have HR := Lib.hid h
      have HDEG : Hid (∀ v wx, Same w wx → Calls Tryd.prog 8 #[.slice a n cap, .int .i64 v] wx (FV wx (.tuple #[.int .i64 ((nbrs (tOf l).S v).length : Int), .int .i64 (vErr (tOf l).S v : Int)]))) := Lib.hid (fun v wx hx => grDegree a n cap l v a0 a1 a2 wx (h.still hx) (by omega) (hE.still hx) (fun k hk => Nat.lt_of_lt_of_le (hEf k hk) hx.size))
      have HADJ : Hid (∀ v wx, Same w wx → Calls Tryd.prog 10 #[.slice a n cap, .int .i64 v] wx (AdjI (tOf l).S v wx)) := Lib.hid (fun v wx hx => grAdj a n cap l v a0 a1 a2 wx (h.still hx) (by omega) (hE.still hx) (fun k hk => Nat.lt_of_lt_of_le (hEf k hk) hx.size))
      have HTL : Hid ((tOf l).S.length ≤ 60 ∧ (tOf l).e ≤ 30 ∧ total (tOf l).S ≤ 60) := Lib.hid (by
        have h3 := tOf_len l l.length (Nat.le_refl _)
        rw [List.take_length] at h3
        have h4 := h.2
        have h5 := (good l).total
        omega)
      have HEND := Lib.hid (seen_end l)
      have HSOME := Lib.hid (good l).some
      have HBACK : Hid (∀ v y, v ∈ (tOf l).S.map (·.1) → y ∈ nbrs (tOf l).S v → y ∈ (tOf l).S.map (·.1) ∧ v ∈ nbrs (tOf l).S y) := Lib.hid (fun v y hv hy => nbr_back hv hy)
      have hLl := h.2
      have HLl := Lib.hid hLl
      clear h hE hEf hLl
      unfold Ran at HRUN
      have htl := HTL.out
      generalize hM : (tOf l).S.length = M at *
      generalize hEe : (tOf l).e = E at *
      generalize hS : (tOf l).S = S at *
      have HM := Lib.hid hM
      have hM60 : M ≤ 60 := htl.1
      have hE30 : E ≤ 30 := htl.2.1
      clear hM hEe hS htl
      go_enter Tryd.func4, Tryd.ntmps4
      go_wp2_with fail
      refine HRUN.out.mono ?_
      rintro e w1 ⟨ea, ec, rfl, hes, hS1⟩
      have HO1 := Lib.hid hS1
      clear hS1 hes HRUN
      have HSB : Hid (∀ D : List Int, degs S D ≤ D.length * 60) := Lib.hid (fun D => Nat.le_trans (degs_le S D) (Nat.mul_le_mul_left _ HTL.out.2.2))
      have HNB : Hid (∀ v, (nbrs S v).length ≤ 60) := Lib.hid (fun v => Nat.le_trans (nbrs_le S v) HTL.out.2.2)
      have HSN : Hid (∀ k (r : List Int), k ≤ n → r.length ≤ 2 → (seenOf S (endsOf (l.take k) ++ r)).length ≤ 62) := Lib.hid (fun k r hk hr => by
        have h1 := seenOf_len S (endsOf (l.take k) ++ r)
        rw [List.length_append, ends_len, List.length_take] at h1
        have := HLl.out
        omega)
      go_wp2_with fail
      go_loopw [6, 7, 34] (fun sn sm i wr => ∃ (k : Nat) (D : List Int) (sa : Option Addr) (sc : Nat), k ≤ n ∧ i = .int .i64 (k : Int) ∧ sn = .slice sa D.length sc ∧ sm = .int .i64 (degs S D : Int) ∧ Hid (D = seenOf S (endsOf (l.take k))) ∧ OL 3 iv wr sa D.length sc D ∧ Same w1 wr ∧ ∀ j, At sa j → w1.heap.size ≤ j) (fun _ _ i _ => n - (intOf i).toNat)
      case atStart => exact ⟨0, [], none, 0, Nat.zero_le _, rfl, rfl, rfl, Lib.hid rfl, OL.nil _ _ _, Only.refl _ _, fun j hj => hj.elim⟩
      case round =>
        obtain ⟨k, D, sa, sc, hk, rfl, rfl, rfl, HDD, hown, hO, hsa⟩ := hrel
        have hbs := hown.bound
        have HOWN := Lib.hid hown
        have HO := Lib.hid hO
        have HSA := Lib.hid hsa
        clear hown hO hsa
        by_cases hlt : k < n
        · have hlt' : (k : Int) < (n : Int) := by omega
          obtain ⟨b, off, rfl, hb, hc⟩ := (HR.out.still (HO1.out.trans HO.out)).at (by omega)
          obtain ⟨s, hs⟩ := HR.out.get hlt
          obtain ⟨p, q⟩ := s
          obtain ⟨c0, c1⟩ := hc k _ hs
          simp only at c0 c1
          have HEN := Lib.hid (ends_take l k _ hs)
          clear hc hs
          obtain ⟨W2, hW2⟩ : ∃ W2, W2 = wr.alloc (.cells #[.int .i64 p, .int .i64 q] 33) := ⟨_, rfl⟩
          obtain ⟨g, hg⟩ : ∃ g, g = wr.heap.size := ⟨_, rfl⟩
          have HSr2 : Hid (Same wr W2) := Lib.hid (by rw [hW2]; exact (Only.refl _ _).alloc _)
          have HBX : Hid (W2.heap[g]? = some (.cells #[.int .i64 p, .int .i64 q] 33 (0, 0))) := Lib.hid (by rw [hW2, hg]; exact heap_alloc_new _ _)
          have d0 : W2.cell? ⟨g, 0, none⟩ = some (iv p) := block_cell HBX.out rfl
          have d1 : W2.cell? ⟨g, 1, none⟩ = some (iv q) := block_cell HBX.out rfl
          go_upto_region 11 with fail
          rw [← hW2, ← hg]
          clear hW2 hg c0 c1
          go_wp2_with fail
          go_loopw [6, 7, 43] (fun sn sm i wr => ∃ (j : Nat) (D : List Int) (sa : Option Addr) (sc : Nat), j ≤ 2 ∧ i = .int .i64 (j : Int) ∧ sn = .slice sa D.length sc ∧ sm = .int .i64 (degs S D : Int) ∧ Hid (D = seenOf S (endsOf (l.take k) ++ [p, q].take j)) ∧ OL 3 iv wr sa D.length sc D ∧ Same w1 wr ∧ ∀ j, At sa j → w1.heap.size ≤ j) (fun _ _ i _ => 2 - (intOf i).toNat)
          case atStart => exact ⟨0, D, sa, sc, Nat.zero_le _, rfl, rfl, rfl, Lib.hid (by rw [HDD.out]; simp), HOWN.out.still HSr2.out, HO.out.trans HSr2.out, HSA.out⟩
          case round =>
            clear HDD HOWN HO HSA hbs d0 d1
            obtain ⟨j, D, sa, sc, hj, rfl, rfl, rfl, HDD, hown, hO, hsa⟩ := hrel
            have hbs := hown.bound
            have HOWN := Lib.hid hown
            have HO := Lib.hid hO
            have HSA := Lib.hid hsa
            clear hown hO hsa
            by_cases hj2 : j < 2
            · have hj2' : (j : Int) < 2 := by omega
              have hj0 : (0 : Int) ≤ (j : Int) := by omega
              obtain ⟨vv, hidx, htk⟩ : ∃ vv : Int, (∀ wx, (Instr.index 34 (.agg #[iv p, iv q]) (.int .i64 (j : Int))).run Tryd.prog wx = .ok (iv vv) wx) ∧ [p, q].take (j + 1) = [p, q].take j ++ [vv] := by
                have hjj : j = 0 ∨ j = 1 := by omega
                rcases hjj with rfl | rfl
                · exact ⟨p, fun wx => by kernel_rfl, rfl⟩
                · exact ⟨q, fun wx => by kernel_rfl, rfl⟩
              have HTK := Lib.hid htk
              have hdl : D.length ≤ 62 := by rw [HDD.out]; exact HSN.out k _ hk (by rw [List.length_take]; simp; omega)
              have hds : degs S D ≤ 3720 := by have := HSB.out D; omega
              have hz : (nbrs S vv).length ≤ 60 := HNB.out vv
              have HSNOC : Hid (seenOf S (endsOf (l.take k) ++ [p, q].take (j + 1)) = if vv ∈ S.map (·.1) ∧ vv ∉ D then D ++ [vv] else D) := Lib.hid (by rw [htk, ← List.append_assoc, seenOf_snoc, ← HDD.out])
              have HDEGv := Lib.hid (HDEG.out vv wr (HO1.out.trans HO.out))
              have HDSN := Lib.hid (degs_snoc S D vv)
              have HCON : Hid (∀ wx, Same wr wx → Calls Tryd.prog 9 #[.slice sa D.length sc, .int .i64 vv] wx fun e w' => e = .returned (.bool (decide (vv ∈ D))) ∧ wx = w') := Lib.hid (fun wx hx => containsS sa D.length sc D vv wx (HOWN.out.still hx).rl)
              have HADJv := Lib.hid (fun wx hx => HADJ.out vv wx (HO1.out.trans (Same.trans HO.out hx)))
              clear htk
              unfold AdjI at HADJv
              generalize hzz : (nbrs S vv).length = z at *
              generalize hdd : D.length = dn at *
              generalize hsum : degs S D = ds at *
              have HZZ := Lib.hid (And.intro hzz (And.intro hdd hsum))
              clear hzz hdd hsum
              by_cases hv : vv ∈ S.map (·.1)
              · have hve : vErr S vv = 0 := by unfold vErr; rw [if_pos ((hasV_iff S vv).2 hv)]
                rw [hve] at HDEGv HADJv
                have HVV := Lib.hid hv
                clear hv hve
                go_wp2_with fail
                refine HDEGv.out.mono ?_
                rintro e w4 ⟨rfl, hS4⟩
                have HCONv := Lib.hid (HCON.out w4 hS4)
                have HS4 := Lib.hid hS4
                clear hS4 HDEGv
                go_wp2_with fail
                refine HCONv.out.mono ?_
                rintro e w5 ⟨rfl, rfl⟩
                clear HCONv
                by_cases hsn : vv ∈ D
                · have HNX : Hid (D = seenOf S (endsOf (l.take k) ++ [p, q].take (j + 1))) := Lib.hid (by rw [HSNOC.out, if_neg (fun h => h.2 hsn)])
                  rw [decide_eq_true hsn]
                  clear hsn
                  go_wp2_with fail
                  go_roundw
                  case rel => exact ⟨j + 1, D, sa, sc, by omega, by go_num, by rw [HZZ.out.2.1], by rw [HZZ.out.2.2], HNX, by rw [HZZ.out.2.1]; exact HOWN.out.still HS4.out, HO.out.trans HS4.out, HSA.out⟩
                  case measure => simp [intOf]; omega
                · have HNX : Hid (D ++ [vv] = seenOf S (endsOf (l.take k) ++ [p, q].take (j + 1))) := Lib.hid (by rw [HSNOC.out, if_pos ⟨HVV.out, hsn⟩])
                  have HNL : Hid ((D ++ [vv]).length = dn + 1 ∧ (degs S (D ++ [vv]) : Int) = (ds : Int) + (z : Int)) := Lib.hid ⟨by rw [List.length_append, HZZ.out.2.1]; rfl, by rw [HDSN.out]; omega⟩
                  rw [decide_eq_false hsn]
                  have HOW4 : Hid (OL 3 iv w4 sa dn sc D) := Lib.hid (HOWN.out.still HS4.out)
                  clear hsn HSNOC HDSN
                  go_wp2_with (at_builtin; refine wpList_append (dn + 1) (D.map iv ++ [iv vv]) rfl _ _ _ _ rfl slI rfl (HOW4.out.1.keep (S := fun j => j = w4.heap.size) (by repeat (first | exact Only.refl _ _ | apply Only.alloc | refine Only.setCell ?_ _ _ (fun _ => rfl))) (fun j hj e => by have := HOW4.out.1.lt j hj; omega)) rfl (Src.row (size := 1) (cs := #[.int .i64 vv]) (t := 3) (fr := (0, 0)) Tryd.underlying23 (heap_alloc_new' _ _ _ (by simp)) 1 1 rfl (by simp [Value.oneCell'])) rfl rfl (by unfold maxLen; omega) (by omega) ?_)
                  intro sa2 sc2 w6 hG
                  have HG : Hid (OL 3 iv w6 sa2 (dn + 1) sc2 (D ++ [vv])) := Lib.hid ⟨by have := hG.own; rwa [List.map_append], HNL.out.1⟩
                  have HO6 : Hid (Same w1 w6) := Lib.hid (Only.trans (S := fun _ => False) (T := At sa) (by repeat (first | exact HO.out.trans HS4.out | apply Only.alloc)) hG.only (fun j hj h => by have := HSA.out j h; omega))
                  have HS46 : Hid (Only (At sa) w4 w6) := Lib.hid (Only.trans (S := At sa) ((Only.refl (At sa) w4).alloc _) hG.only (fun _ _ h => h))
                  have HF6 : Hid (∀ j, At sa2 j → w1.heap.size ≤ j) := Lib.hid (fun j hj => by
                    rcases hG.fresh j hj with h | h
                    · exact HSA.out j h
                    · have h1 := HO.out.size; have h2 := HS4.out.size; simp at h; omega)
                  have HADJ6 : Hid (Calls Tryd.prog 10 #[.slice (some ⟨b, off, none⟩) n cap, .int .i64 vv] w6 fun e w' => ∃ a c F, e = .returned (.tuple #[.slice a z c, .int .i64 0]) ∧ RL iv w' a z c F ∧ F.Perm (nbrs S vv) ∧ Same w6 w') := Lib.hid (by
                    have := HADJ.out vv w6 (HO1.out.trans HO6.out)
                    unfold AdjI at this
                    have hve : vErr S vv = 0 := by unfold vErr; rw [if_pos ((hasV_iff S vv).2 HVV.out)]
                    rw [hve, HZZ.out.1] at this
                    exact this)
                  clear hG HADJv
                  go_wp2_with fail
                  refine HADJ6.out.mono ?_
                  rintro e w7 ⟨fa, fc, F, rfl, hF, hp, hS7⟩
                  have hbF := hF.bound
                  have HF := Lib.hid hF
                  have HP := Lib.hid hp
                  have HO7 : Hid (Same w1 w7) := Lib.hid (HO6.out.trans hS7)
                  have HG7 : Hid (OL 3 iv w7 sa2 (dn + 1) sc2 (D ++ [vv])) := Lib.hid (HG.out.still hS7)
                  clear hF hp hS7 HADJ6
                  go_wp2_with fail
                  go_loopw [74] (fun i wr => ∃ m : Nat, m ≤ z ∧ i = .int .i64 (m : Int) ∧ Same w7 wr) (fun i _ => z - (intOf i).toNat)
                  case atStart => exact ⟨0, Nat.zero_le _, rfl, Only.refl _ _⟩
                  case round =>
                    obtain ⟨m, hm, rfl, hO⟩ := hrel
                    have HOm := Lib.hid hO
                    clear hO
                    by_cases hmz : m < z
                    · have hmz' : (m : Int) < (z : Int) := by omega
                      obtain ⟨fb, fo, rfl, hfb, hfc⟩ := (HF.out.still HOm.out).at (by omega)
                      obtain ⟨y, hy⟩ := HF.out.get hmz
                      have c0 := hfc m y hy
                      obtain ⟨hyV, hvy⟩ := HBACK.out vv y HVV.out (HP.out.mem_iff.1 (List.mem_of_getElem? hy))
                      have HADJy : Hid (Calls Tryd.prog 10 #[.slice (some ⟨b, off, none⟩) n cap, .int .i64 y] wr fun e w' => ∃ a zz c F, e = .returned (.tuple #[.slice a zz c, .int .i64 0]) ∧ RL iv w' a zz c F ∧ vv ∈ F ∧ Same wr w') := Lib.hid (by
                        have := HADJ.out y wr (HO1.out.trans (HO7.out.trans HOm.out))
                        unfold AdjI at this
                        have hve : vErr S y = 0 := by unfold vErr; rw [if_pos ((hasV_iff S y).2 hyV)]
                        rw [hve] at this
                        exact this.mono fun e w' ⟨a, c, F, he, hr, hp, hS⟩ => ⟨a, _, c, F, he, hr, hp.mem_iff.2 hvy, hS⟩)
                      clear hfc hy hyV hvy
                      go_wp2_with fail
                      refine HADJy.out.mono ?_
                      rintro e w8 ⟨ba, bn, bc, F2, rfl, hr8, hv8, hS8⟩
                      have hb8 := hr8.bound
                      have HC8 : Hid (Calls Tryd.prog 9 #[.slice ba bn bc, .int .i64 vv] w8 fun e w' => e = .returned (.bool true) ∧ w8 = w') := Lib.hid (by
                        have := containsS ba bn bc F2 vv w8 hr8
                        rwa [decide_eq_true hv8] at this)
                      have HO8 := Lib.hid (HOm.out.trans hS8)
                      clear hr8 hv8 hS8 HADJy
                      go_wp2_with fail
                      refine HC8.out.mono ?_
                      rintro e w9 ⟨rfl, rfl⟩
                      go_wp2_with fail
                      go_roundw
                      case rel => exact ⟨m + 1, by omega, by go_num, HO8.out⟩
                      case measure => simp [intOf]; omega
                    · obtain rfl : m = z := by omega
                      have HFR := Lib.hid (HO7.out.trans HOm.out)
                      go_wp2_with fail
                      go_roundw
                      case rel => exact ⟨j + 1, D ++ [vv], sa2, sc2, by omega, by go_num, by rw [HNL.out.1], by rw [HNL.out.2], HNX, by rw [HNL.out.1]; exact HG7.out.still HOm.out, HFR.out, HF6.out⟩
                      case measure => simp [intOf]; omega
              · have hve : vErr S vv = 1 := by unfold vErr; rw [if_neg (fun h => hv ((hasV_iff S vv).1 h))]
                rw [hve] at HDEGv
                have HNX : Hid (D = seenOf S (endsOf (l.take k) ++ [p, q].take (j + 1))) := Lib.hid (by rw [HSNOC.out, if_neg (fun h => hv h.1)])
                clear hv hve
                go_wp2_with fail
                refine HDEGv.out.mono ?_
                rintro e w4 ⟨rfl, hS4⟩
                have HS4 := Lib.hid hS4
                clear hS4 HDEGv
                go_wp2_with fail
                go_roundw
                case rel => exact ⟨j + 1, D, sa, sc, by omega, by go_num, by rw [HZZ.out.2.1], by rw [HZZ.out.2.2], HNX, by rw [HZZ.out.2.1]; exact HOWN.out.still HS4.out, HO.out.trans HS4.out, HSA.out⟩
                case measure => simp [intOf]; omega
            · obtain rfl : j = 2 := by omega
              go_wp2_with fail
              go_roundw
              case rel => exact ⟨k + 1, D, sa, sc, by omega, by go_num, rfl, rfl, Lib.hid (by rw [HEN.out, HDD.out]; rfl), HOWN.out, HO.out, HSA.out⟩
              case measure => simp [intOf]; omega
        · obtain rfl : k = n := by omega
          have hdone : D = seenOf S (endsOf l) := by rw [HDD.out, List.take_of_length_le (by rw [HLl.out]; exact Nat.le_refl _)]
          have hD1 : D.length = M := by rw [hdone]; exact HEND.out.1
          have hD2 : degs S D = 2 * E := by rw [hdone]; exact HEND.out.2
          have hEM : (E = 0 ↔ M = 0) := by
            have := HSOME.out
            have h2 := HM.out
            constructor
            · intro h0
              by_cases hS0 : S = []
              · rw [← h2, hS0]; rfl
              · have := this.2 hS0; omega
            · intro h0
              by_cases hE0 : E = 0
              · exact hE0
              · have := this.1 (by omega)
                exact absurd (List.eq_nil_of_length_eq_zero (by rw [h2]; exact h0)) this
          have hds2 : ((degs S D : Nat) : Int) = 2 * (E : Int) := by rw [hD2]; omega
          have HFIN := Lib.hid (HO1.out.trans HO.out)
          rw [hD1, hds2]
          have hE30' : (E : Int) ≤ 30 := by omega
          have hE0' : (0 : Int) ≤ (E : Int) := by omega
          clear HEND HSOME hD1 hD2 hdone hds2 HDD HOWN HSA HO HDEG HADJ HTL HBACK HSN HNB HSB
          by_cases hE0 : E = 0
          · have hM0 : M = 0 := hEM.1 hE0
            subst hE0
            subst hM0
            clear hEM
            go_wp2_with fail
            go_ret
            exact ⟨rfl, Only.below HFIN.out (Nat.le_refl _) (fun _ _ => id)⟩
          · have hM0 : M ≠ 0 := fun h => hE0 (hEM.2 h)
            have x1 : ((E : Int) == 0) = false := by simp; omega
            have x2 : ((M : Int) == 0) = false := by simp; omega
            clear hEM hE0 hM0
            go_wp2_with fail
            go_ret
            exact ⟨rfl, Only.below HFIN.out (Nat.le_refl _) (fun _ _ => id)⟩
    · have hn' : (30 : Int) < (n : Int) := by omega
      clear h hE hEf
      go_enter Tryd.func4, Tryd.ntmps4
      go_wp2_with fail
      go_ret
      exact ⟨rfl, Below.refl _ _⟩
  · have hn1' : (2147483647 : Int) < (n : Int) := by omega
    clear h hE hEf
    go_enter Tryd.func4, Tryd.ntmps4
    go_wp2_with fail
    go_ret
    exact ⟨rfl, Below.refl _ _⟩

theorem walk (W : World) (v0 : Value) (r0 : Reads Tryd.prog W 22 v0) (a0 a1 a2 : Addr) (hE : Errs W a0 a1 a2) (hEf : ∀ k, errFoot a0 a1 a2 k → k < W.heap.size) :
    Calls Tryd.prog 4 #[v0] W fun e w' => e = .returned (.bool true) ∧ Below W.heap.size W w' := by
  obtain ⟨a, n, cap, l, rfl, h⟩ := read_edges r0
  exact main a n cap l a0 a1 a2 W h hE hEf
end Go.Proofs.YtpccodjmjgfloaaDoor.walkFnGRHands

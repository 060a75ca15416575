/-
  spec's TRPut.
-/
import Derived.Test.YtcjifjfcjimefaaDoorZXfTrp
import Derived.Test.YtcjifjfcjimefaaDoorZXfOnes
namespace Go.Proofs.YtcjifjfcjimefaaDoor.xf
open Go.ChangeShapes Go.WideShapes Go.ChangeAt Go.RowKit Go.Proofs.YtcjifjfcjimefaaDoor.base Go.Proofs.YtcjifjfcjimefaaDoor.heap Go.Proofs.YtcjifjfcjimefaaDoor.rows Go.Proofs.YtcjifjfcjimefaaDoor.mapn
set_option linter.unusedVariables false

/-- the end of a list -/
theorem RS.from {w : World} {b off n cap j : Nat} {L : List It} (h : RS itc 2 w (some ⟨b, off, none⟩) n cap L) (hj : j ≤ n) : RS itc 2 w (some ⟨b, if cap = j then off else off + j * 2, none⟩) (n - j) (cap - j) (L.drop j) := by
  have bd := h.bound
  have hl := h.2
  refine ⟨?_, by rw [List.length_drop, hl]⟩
  rw [flatMap_drop itc_len]
  by_cases hc : cap = j
  · rw [if_pos hc]
    have h1 := h.1.take (k := 0) (c := 0) (by omega) (by omega) (by omega)
    have e1 : n - j = 0 := by omega
    have e2 : cap - j = 0 := by omega
    rw [e1, e2, List.drop_of_length_le (by rw [h.1.len]; exact Nat.mul_le_mul_right _ (by omega))]
    simpa using h1
  · rw [if_neg hc]
    exact h.1.drop hj
theorem New.grow {α : Type} {e : Nat} {c : α → List Value} {K m : Nat} {w wr wk w8 : World} {a a2 : Option Addr} {n cap cap2 N : Nat} {l l3 : List α} {XS : List Value} (h : New e c K w wr a n cap l) (hs : Same wr wk) (hG : Grew e K wk w8 a a2 m N cap cap2 XS) (hX : XS = l3.flatMap c) (hl : l3.length = N) : New e c K w w8 a2 N cap2 l3 := by
  have z1 := h.same.size
  have z2 := hs.size
  refine ⟨⟨by rw [← hX]; exact hG.own, hl⟩, new_only (h.same.trans hs) hG.only h.new, fun k hk => ?_⟩
  rcases hG.fresh k hk with h' | h'
  · exact h.new k h'
  · omega
theorem New.base {α : Type} {e : Nat} {c : α → List Value} {K : Nat} {w w1 wr : World} {a : Option Addr} {n cap : Nat} {l : List α} (h : New e c K w1 wr a n cap l) (hs : Same w w1) : New e c K w wr a n cap l := ⟨h.row, hs.trans h.same, fun k hk => Nat.le_trans hs.size (h.new k hk)⟩
theorem New.zero {w w1 : World} (h : Same w w1) : New 43 itc 2 w (w1.alloc (.cells #[] 43)) (some ⟨w1.heap.size, 0, none⟩) 0 0 [] :=
  ⟨⟨Go.Proofs.YtcjifjfcjimefaaDoor.heap.Own.made 43 2 w1 #[] 0 0 (Nat.le_refl _) (by unfold maxLen; omega) rfl (by simp), rfl⟩, h.trans ((Only.refl _ _).alloc _), fun k hk => by
    have e : w1.heap.size = k := hk
    have := h.size
    omega⟩
/-- a list with an entry; what was there -/
def Puts (w : World) (L : List It) (y : It) (e : Ending) (w' : World) : Prop :=
  ∃ (a' : Option Addr) (n' c' : Nat) (oa : Option Addr) (on oc : Nat) (O : List It), e = .returned (.tuple #[.slice a' n' c', .slice oa on oc]) ∧ New 43 itc 2 w w' a' n' c' (put L y.1 y.2) ∧ RS itc 2 w' oa on oc O ∧ on ≤ 1
set_option maxRecDepth 100000 in
set_option maxHeartbeats 1600000 in
theorem put_none (y : It) (w : World) : Calls Tryd.prog 40 #[.slice none 0 0, .agg #[.int .u64 (y.1 : Int), .int .i64 y.2]] w (Puts w [] y) := by
  have HF : Hid (∀ wx, Calls Tryd.prog 42 #[.slice none 0 0, .int .u64 (y.1 : Int)] wx (SayP (.int .i64 0) wx)) := Lib.hid (fun wx => trFind_of wx none 0 0 [] y.1 (RS.nil _ _ _))
  have HH : Hid (∀ wx, Calls Tryd.prog 41 #[.slice none 0 0, .int .u64 (y.1 : Int)] wx (SayP (.bool false) wx)) := Lib.hid (fun wx => trHas_of wx none 0 0 [] y.1 (RS.nil _ _ _))
  go_enter Tryd.func40, Tryd.ntmps40
  go_wp2_with fail
  refine (HF.out _).mono ?_
  rintro e w1 ⟨rfl, hs1⟩
  obtain ⟨g, hg⟩ : ∃ g, w.heap.size = g := ⟨_, rfl⟩
  have hb : w1.heap[g]? = some (.cells #[.int .u64 (y.1 : Int), .int .i64 y.2] 43 (0, 0)) := by rw [← hg]; exact hs1.obj (heap_alloc_new _ _) id
  have HS1 : Hid (Same w w1) := Lib.hid (((Only.refl _ _).alloc _).trans hs1 (fun _ _ h => h))
  have HB := Lib.hid hb
  have hgn := Lib.hid hg
  rw [hg]
  clear hs1 hb hg HF
  have x0 : w1.cell? ⟨g, 0, none⟩ = some (.int .u64 (y.1 : Int)) := block_cell HB.out rfl
  have x1 : w1.cell? ⟨g, 1, none⟩ = some (.int .i64 y.2) := block_cell HB.out rfl
  have lg := lt_of_heap HB.out
  have HE := Lib.hid (New.zero HS1.out)
  go_wp2_with (at_builtin; refine wpList_append 1 [.int .u64 (y.1 : Int), .int .i64 y.2] rfl _ _ _ _ rfl slIt rfl (HE.out.row.1.keep (S := fun _ => False) (by repeat (first | exact Only.refl _ _ | apply Only.alloc | apply Only.drew)) (fun _ _ => id)) rfl (Src.row (size := 2) (cs := #[.int .u64 (y.1 : Int), .int .i64 y.2]) (t := 43) (fr := (0, 0)) Tryd.underlying22 (by exact heap_alloc_new' _ _ _ (by simp)) 1 1 rfl (by simp [Value.oneCell'])) rfl rfl (by unfold maxLen; omega) (by omega) ?_)
  intro a2 c2 w8 hG
  have hN := HE.out.grow (l3 := [y]) ((Only.refl _ _).alloc _) hG rfl rfl
  have hb8 := (new_only (Only.refl (fun _ => False) w1) (((Only.refl (fun k => k = w1.heap.size) w1).alloc (.cells #[] 43)).alloc (.cells #[.int .u64 (y.1 : Int), .int .i64 y.2] 43) |>.trans hG.only (fun k _ e => (show w1.heap.size = k from e).symm)) (fun k e => Nat.le_of_eq (show k = w1.heap.size from e).symm)).obj HB.out id
  have HN := Lib.hid hN
  have z0 : w8.cell? ⟨g, 0, none⟩ = some (.int .u64 (y.1 : Int)) := block_cell hb8 rfl
  have l8 := lt_of_heap hb8
  clear hG x0 x1 lg hN hb8 HE HB
  go_wp2_with fail
  refine (HH.out _).mono ?_
  rintro e w9 ⟨rfl, hs9⟩
  have HN9 := Lib.hid (HN.out.still hs9)
  have bd9 := HN.out.row.bound
  clear hs9 HN HH z0 l8
  go_wp2_with (at_builtin; refine wpList_append 1 [.int .u64 (y.1 : Int), .int .i64 y.2] rfl _ _ _ _ rfl slIt rfl HN9.out.row.1 rfl (Src.ofNil _ Tryd.underlying22 0) rfl rfl (by unfold maxLen; omega) (by omega) ?_)
  intro a3 c3 w3 hG
  have HN3 := Lib.hid (HN9.out.grow (l3 := [y]) (Only.refl _ _) hG rfl rfl)
  clear hG HN9
  go_wp2_with fail
  refine bodyPost_ret (v := .tuple #[.slice a3 1 c3, .slice none 0 0]) ?_ rfl ?_
  · simp [results, Tryd.results40, go_sem]
  exact ⟨a3, 1, c3, none, 0, 0, [], rfl, HN3.out, RS.nil _ _ _, Nat.zero_le _⟩
theorem has_lt {L : List It} {k : Nat} (h : has L k = true) : pos L k < L.length := by
  unfold has at h
  split at h
  · rename_i y hy
    exact (List.getElem?_eq_some_iff.1 hy).1
  · cases h
set_option maxRecDepth 100000 in
set_option maxHeartbeats 1600000 in
theorem put_some (b off n cap : Nat) (L : List It) (y : It) (w : World) (h : RS itc 2 w (some ⟨b, off, none⟩) n cap L) (hn0 : 0 < n) (hn : n ≤ 1000000) : Calls Tryd.prog 40 #[.slice (some ⟨b, off, none⟩) n cap, .agg #[.int .u64 (y.1 : Int), .int .i64 y.2]] w (Puts w L y) := by
  have bd := h.bound
  have hln := h.2
  have hp := pos_le L y.1
  have HR : Hid (∀ wx, Same w wx → RS itc 2 wx (some ⟨b, off, none⟩) n cap L) := Lib.hid (fun wx hx => h.still hx)
  have hbw : b < w.heap.size := by
    obtain ⟨b', off', e, hb, _⟩ := h.at itc_len hn0
    cases e
    exact hb
  obtain ⟨j, hj⟩ : ∃ j, pos L y.1 = j := ⟨_, rfl⟩
  have HF : Hid (∀ wx, Same w wx → Calls Tryd.prog 42 #[.slice (some ⟨b, off, none⟩) n cap, .int .u64 (y.1 : Int)] wx (SayP (.int .i64 (j : Int)) wx)) := Lib.hid (fun wx hx => by rw [← hj]; exact trFind_of wx _ n cap L y.1 (HR.out wx hx))
  obtain ⟨hs, hhs⟩ : ∃ hs, has L y.1 = hs := ⟨_, rfl⟩
  have HH : Hid (∀ wx, Same w wx → Calls Tryd.prog 41 #[.slice (some ⟨b, off, none⟩) n cap, .int .u64 (y.1 : Int)] wx (SayP (.bool hs) wx)) := Lib.hid (fun wx hx => by rw [← hhs]; exact trHas_of wx _ n cap L y.1 (HR.out wx hx))
  have HPUT : Hid (put L y.1 y.2 = L.take j ++ [y] ++ L.drop (if hs then j + 1 else j)) := Lib.hid (by rw [put_pos, hj, hhs]; simp)
  have HLT : Hid (hs = true → j < n) := Lib.hid (fun e => by have := has_lt (hhs.trans e); omega)
  have hjn : j ≤ n := by omega
  have HLN := Lib.hid hln
  clear h hp hj hhs hln
  go_enter Tryd.func40, Tryd.ntmps40
  go_wp2_with fail
  refine (HF.out _ ((Only.refl _ _).alloc _)).mono ?_
  rintro e w1 ⟨rfl, hs1⟩
  obtain ⟨g, hg⟩ : ∃ g, w.heap.size = g := ⟨_, rfl⟩
  have hb : w1.heap[g]? = some (.cells #[.int .u64 (y.1 : Int), .int .i64 y.2] 43 (0, 0)) := by rw [← hg]; exact hs1.obj (heap_alloc_new _ _) id
  have HS1 : Hid (Same w w1) := Lib.hid (((Only.refl _ _).alloc _).trans hs1 (fun _ _ h => h))
  have HB := Lib.hid hb
  have hbg : b < g := by omega
  have hgn := Lib.hid hg
  rw [hg]
  clear hs1 hb hg HF
  have lg := lt_of_heap HB.out
  have HE := Lib.hid (New.zero (Only.refl _ w1))
  have HBX : Hid (∀ wx, Same w1 wx → wx.cell? ⟨g, 0, none⟩ = some (.int .u64 (y.1 : Int)) ∧ wx.cell? ⟨g, 1, none⟩ = some (.int .i64 y.2) ∧ g < wx.heap.size) := Lib.hid (fun wx hx => ⟨block_cell (hx.obj HB.out id) rfl, block_cell (hx.obj HB.out id) rfl, lt_of_heap (hx.obj HB.out id)⟩)
  have hj0 : (0 : Int) ≤ (j : Int) := by omega
  have hjc : (j : Int) ≤ (cap : Int) := by omega
  have HT : Hid (∀ wx, Same w wx → Rd 2 wx (some ⟨b, off, none⟩) j cap ((L.take j).flatMap itc)) := Lib.hid (fun wx hx => by
    have := (HR.out wx hx).1.take (k := j) (c := cap) hjn (by omega) (Nat.le_refl _)
    rwa [← flatMap_take itc_len] at this)
  go_wp2_with (at_builtin; refine wpList_append j ((L.take j).flatMap itc) rfl _ _ _ _ rfl slIt rfl HE.out.row.1 rfl (Rd.src (HT.out _ (HS1.out.trans ((Only.refl _ _).alloc _))) Tryd.underlying22) (Nat.zero_add _) (List.nil_append _) (by unfold maxLen; omega) (by omega) ?_)
  intro a2 c2 w2 hG
  have HN2 := Lib.hid (HE.out.grow (l3 := L.take j) (Only.refl _ _) hG rfl (by rw [List.length_take, HLN.out]; omega))
  obtain ⟨x0, x1, lg2⟩ := HBX.out w2 HN2.out.same
  have bd2 := HN2.out.row.bound
  clear hG HE lg
  go_wp2_with (at_builtin; refine wpList_append (j + 1) ((L.take j).flatMap itc ++ [.int .u64 (y.1 : Int), .int .i64 y.2]) rfl _ _ _ _ rfl slIt rfl (HN2.out.row.1.keep (S := fun _ => False) (by repeat (first | exact Only.refl _ _ | apply Only.alloc | apply Only.drew)) (fun _ _ => id)) rfl (Src.row (size := 2) (cs := #[.int .u64 (y.1 : Int), .int .i64 y.2]) (t := 43) (fr := (0, 0)) Tryd.underlying22 (by exact heap_alloc_new' _ _ _ (by simp)) 1 1 rfl (by simp [Value.oneCell'])) rfl rfl (by unfold maxLen; omega) (by omega) ?_)
  intro a3 c3 w3 hG
  have HN3 := Lib.hid (HN2.out.grow (l3 := L.take j ++ [y]) ((Only.refl _ _).alloc _) hG (by rw [List.flatMap_append]; rfl) (by rw [List.length_append, List.length_take, HLN.out]; simp; omega))
  obtain ⟨z0, z1, lg3⟩ := HBX.out w3 HN3.out.same
  have bd3 := HN3.out.row.bound
  clear hG HN2 x0 x1 lg2 bd2
  go_wp2_with fail
  refine (HH.out _ (HS1.out.trans HN3.out.same)).mono ?_
  rintro e w4 ⟨rfl, hs4⟩
  have HN4 := Lib.hid (HN3.out.still hs4)
  clear hs4 HN3 z0 z1 lg3
  have HFR : Hid (∀ (i : Nat) (wx : World), i ≤ n → Same w1 wx → Rd 2 wx (some ⟨b, if cap = i then off else off + i * 2, none⟩) (n - i) (cap - i) ((L.drop i).flatMap itc)) := Lib.hid (fun i wx hi hx => (RS.from (HR.out wx (HS1.out.trans hx)) hi).1)
  cases hs with
  | false =>
    by_cases hc : cap = j
    · have HD : Hid (Rd 2 w4 (some ⟨b, off, none⟩) (n - j) 0 ((L.drop j).flatMap itc)) := Lib.hid (by
        have := HFR.out j w4 hjn HN4.out.same
        rwa [if_pos hc, hc, Nat.sub_self] at this)
      go_wp2_with (at_builtin; refine wpList_append (j + 1 + (n - j)) ((L.take j ++ [y]).flatMap itc ++ (L.drop j).flatMap itc) rfl _ _ _ _ rfl slIt rfl HN4.out.row.1 rfl (Rd.src HD.out Tryd.underlying22) rfl rfl (by unfold maxLen; omega) (by omega) ?_)
      intro a5 c5 w5 hG
      have HN5 := Lib.hid (HN4.out.grow (l3 := put L y.1 y.2) (Only.refl _ _) hG (by rw [HPUT.out]; simp) (by rw [HPUT.out]; simp [HLN.out]; omega))
      clear hG HN4 HD
      go_wp2_with fail
      refine bodyPost_ret (v := .tuple #[.slice a5 (j + 1 + (n - j)) c5, .slice none 0 0]) ?_ rfl ?_
      · simp [results, Tryd.results40, go_sem]
      exact ⟨_, _, _, none, 0, 0, [], rfl, HN5.out.base HS1.out, RS.nil _ _ _, Nat.zero_le _⟩
    · have hc2 : ¬ j = cap := fun e => hc e.symm
      have HD : Hid (Rd 2 w4 (some ⟨b, off + j * 2, none⟩) (n - j) (cap - j) ((L.drop j).flatMap itc)) := Lib.hid (by
        have := HFR.out j w4 hjn HN4.out.same
        rwa [if_neg hc] at this)
      go_wp2_with (at_builtin; refine wpList_append (j + 1 + (n - j)) ((L.take j ++ [y]).flatMap itc ++ (L.drop j).flatMap itc) rfl _ _ _ _ rfl slIt rfl HN4.out.row.1 rfl (Rd.src HD.out Tryd.underlying22) rfl rfl (by unfold maxLen; omega) (by omega) ?_)
      intro a5 c5 w5 hG
      have HN5 := Lib.hid (HN4.out.grow (l3 := put L y.1 y.2) (Only.refl _ _) hG (by rw [HPUT.out]; simp) (by rw [HPUT.out]; simp [HLN.out]; omega))
      clear hG HN4 HD
      go_wp2_with fail
      refine bodyPost_ret (v := .tuple #[.slice a5 (j + 1 + (n - j)) c5, .slice none 0 0]) ?_ rfl ?_
      · simp [results, Tryd.results40, go_sem]
      exact ⟨_, _, _, none, 0, 0, [], rfl, HN5.out.base HS1.out, RS.nil _ _ _, Nat.zero_le _⟩
  | true =>
    have hjlt := HLT.out rfl
    obtain ⟨z, hz⟩ := (HR.out w (Only.refl _ _)).get hjlt
    have HZ : Hid (∀ wx, Same w1 wx → wx.cell? ⟨b, off + j * 2, none⟩ = some (.int .u64 (z.1 : Int)) ∧ wx.cell? ⟨b, off + j * 2 + 1, none⟩ = some (.int .i64 z.2) ∧ b < wx.heap.size) := Lib.hid (fun wx hx => by
      obtain ⟨b', off', ha, hb', hc⟩ := (HR.out wx (HS1.out.trans hx)).at itc_len hn0
      cases ha
      exact ⟨hc j z hz 0 _ rfl, hc j z hz 1 _ rfl, hb'⟩)
    have HROW : Hid (∀ wx : World, ((wx.alloc (.cells #[.int .u64 (z.1 : Int), .int .i64 z.2] 43)).drew).heap[wx.heap.size]? = some (.cells #[.int .u64 (z.1 : Int), .int .i64 z.2] 43 (0, 0))) := Lib.hid (fun wx => heap_alloc_new wx _)
    have HFJ : Hid (∀ (wx : World) (g : Nat), wx.heap[g]? = some (.cells #[.int .u64 (z.1 : Int), .int .i64 z.2] 43 (0, 0)) → RS itc 2 wx (some ⟨g, 0, none⟩) 1 1 [z]) := Lib.hid (fun wx g hg => ⟨(Go.Proofs.YtcjifjfcjimefaaDoor.heap.Own.of_block (size := 2) hg 1 1 (Nat.le_refl _) (by unfold maxLen; omega) rfl (fun u hu => itc_one z u hu)).rd, rfl⟩)
    obtain ⟨z0, z1, lb⟩ := HZ.out w4 HN4.out.same
    have hj1 : (0 : Int) ≤ (j : Int) + 1 := by omega
    have hjn1 : (j : Int) < (n : Int) := by omega
    have hjc1 : (j : Int) + 1 ≤ (cap : Int) := by omega
    have hjn2 : (j : Int) + 1 ≤ (n : Int) := by omega
    have hwr : IntKind.i64.wrap ((j : Int) + 1) = (j : Int) + 1 := IntWalk.i64_in _ (by omega)
    have htn : ((j : Int) + 1).toNat = j + 1 := by omega
    clear hz
    go_upto_region 5 with fail
    by_cases hc : cap = j + 1
    · subst hc
      have HD : Hid (∀ wx, Same w4 wx → Rd 2 wx (some ⟨b, off, none⟩) (n - (j + 1)) (j + 1 - (j + 1)) ((L.drop (j + 1)).flatMap itc)) := Lib.hid (fun wx hx => by
        have := HFR.out (j + 1) wx (by omega) (HN4.out.same.trans hx)
        rwa [if_pos rfl] at this)
      clear HFR HR HT HB HBX HH hbg hgn hbw
      go_region_law (first
        | ((with_reducible show (ite _ (Oper.wp _ _ _ (World.drew w4) _ _) _)); refine step_app (j + 1 + (n - (j + 1))) ((L.take j ++ [y]).flatMap itc ++ (L.drop (j + 1)).flatMap itc) (by rfl) _ _ _ _ (by rfl) slIt ?_ (HN4.out.row.1.keep (S := fun _ => False) (Only.refl _ _).drew (fun _ _ => id)) ?_ (Rd.src (HD.out _ (Only.refl _ _).drew) Tryd.underlying22) rfl rfl (by unfold maxLen; omega) (by omega) ?_; (go_simp); (go_simp); intro a5 c5 w5 hG; have HN5 := Lib.hid (HN4.out.grow (l3 := put L y.1 y.2) (Only.refl _ _).drew hG (by rw [HPUT.out]; simp) (by rw [HPUT.out]; simp [HLN.out]; omega)); obtain ⟨e0, e1, le5⟩ := HZ.out w5 HN5.out.same; clear hG)
        | ((with_reducible show (ite _ (Oper.wp _ _ _ (World.drew (World.alloc w4 _)) _ _) _)); refine step_app (j + 1 + (n - (j + 1))) ((L.take j ++ [y]).flatMap itc ++ (L.drop (j + 1)).flatMap itc) (by rfl) _ _ _ _ (by rfl) slIt ?_ (HN4.out.row.1.keep (S := fun _ => False) ((Only.refl _ _).alloc _).drew (fun _ _ => id)) ?_ (Rd.src (HD.out _ ((Only.refl _ _).alloc _).drew) Tryd.underlying22) rfl rfl (by unfold maxLen; omega) (by omega) ?_; (go_simp); (go_simp); intro a5 c5 w5 hG; have HN5 := Lib.hid (HN4.out.grow (l3 := put L y.1 y.2) ((Only.refl _ _).alloc _).drew hG (by rw [HPUT.out]; simp) (by rw [HPUT.out]; simp [HLN.out]; omega)); have hz5 := hG.only.obj (HROW.out w4) (fun hk => Nat.lt_irrefl _ (HN4.out.row.1.lt _ hk)); have HFN := Lib.hid (HFJ.out w5 _ hz5); clear hG hz5)
        | fail)
      all_goals
        go_wp2_with fail
        first
        | (refine bodyPost_ret (v := .tuple #[.slice a5 (j + 1 + (n - (j + 1))) c5, .slice (some ⟨w5.heap.size, 0, none⟩) 1 1]) (by simp [results, Tryd.results40, go_sem] <;> omega) rfl ?_
           exact ⟨_, _, _, _, 1, 1, [z], rfl, (HN5.out.still ((Only.refl _ _).alloc _)).base HS1.out, HFJ.out _ _ (heap_alloc_new w5 _), Nat.le_refl _⟩)
        | (refine bodyPost_ret (v := .tuple #[.slice a5 (j + 1 + (n - (j + 1))) c5, .slice (some ⟨w4.heap.size, 0, none⟩) 1 1]) (by simp [results, Tryd.results40, go_sem] <;> omega) rfl ?_
           exact ⟨_, _, _, _, 1, 1, [z], rfl, HN5.out.base HS1.out, HFN.out, Nat.le_refl _⟩)
        | fail
    · have hc2 : ¬ j + 1 = cap := fun e => hc e.symm
      have HD : Hid (∀ wx, Same w4 wx → Rd 2 wx (some ⟨b, off + (j + 1) * 2, none⟩) (n - (j + 1)) (cap - (j + 1)) ((L.drop (j + 1)).flatMap itc)) := Lib.hid (fun wx hx => by
        have := HFR.out (j + 1) wx (by omega) (HN4.out.same.trans hx)
        rwa [if_neg hc] at this)
      clear HFR HR HT HB HBX HH hbg hgn hbw
      go_region_law (first
        | ((with_reducible show (ite _ (Oper.wp _ _ _ (World.drew w4) _ _) _)); refine step_app (j + 1 + (n - (j + 1))) ((L.take j ++ [y]).flatMap itc ++ (L.drop (j + 1)).flatMap itc) (by rfl) _ _ _ _ (by rfl) slIt ?_ (HN4.out.row.1.keep (S := fun _ => False) (Only.refl _ _).drew (fun _ _ => id)) ?_ (Rd.src (HD.out _ (Only.refl _ _).drew) Tryd.underlying22) rfl rfl (by unfold maxLen; omega) (by omega) ?_; (go_simp); (go_simp); intro a5 c5 w5 hG; have HN5 := Lib.hid (HN4.out.grow (l3 := put L y.1 y.2) (Only.refl _ _).drew hG (by rw [HPUT.out]; simp) (by rw [HPUT.out]; simp [HLN.out]; omega)); obtain ⟨e0, e1, le5⟩ := HZ.out w5 HN5.out.same; clear hG)
        | ((with_reducible show (ite _ (Oper.wp _ _ _ (World.drew (World.alloc w4 _)) _ _) _)); refine step_app (j + 1 + (n - (j + 1))) ((L.take j ++ [y]).flatMap itc ++ (L.drop (j + 1)).flatMap itc) (by rfl) _ _ _ _ (by rfl) slIt ?_ (HN4.out.row.1.keep (S := fun _ => False) ((Only.refl _ _).alloc _).drew (fun _ _ => id)) ?_ (Rd.src (HD.out _ ((Only.refl _ _).alloc _).drew) Tryd.underlying22) rfl rfl (by unfold maxLen; omega) (by omega) ?_; (go_simp); (go_simp); intro a5 c5 w5 hG; have HN5 := Lib.hid (HN4.out.grow (l3 := put L y.1 y.2) ((Only.refl _ _).alloc _).drew hG (by rw [HPUT.out]; simp) (by rw [HPUT.out]; simp [HLN.out]; omega)); have hz5 := hG.only.obj (HROW.out w4) (fun hk => Nat.lt_irrefl _ (HN4.out.row.1.lt _ hk)); have HFN := Lib.hid (HFJ.out w5 _ hz5); clear hG hz5)
        | fail)
      all_goals
        go_wp2_with fail
        first
        | (refine bodyPost_ret (v := .tuple #[.slice a5 (j + 1 + (n - (j + 1))) c5, .slice (some ⟨w5.heap.size, 0, none⟩) 1 1]) (by simp [results, Tryd.results40, go_sem] <;> omega) rfl ?_
           exact ⟨_, _, _, _, 1, 1, [z], rfl, (HN5.out.still ((Only.refl _ _).alloc _)).base HS1.out, HFJ.out _ _ (heap_alloc_new w5 _), Nat.le_refl _⟩)
        | (refine bodyPost_ret (v := .tuple #[.slice a5 (j + 1 + (n - (j + 1))) c5, .slice (some ⟨w4.heap.size, 0, none⟩) 1 1]) (by simp [results, Tryd.results40, go_sem] <;> omega) rfl ?_
           exact ⟨_, _, _, _, 1, 1, [z], rfl, HN5.out.base HS1.out, HFN.out, Nat.le_refl _⟩)
        | fail
theorem trPut_of (w : World) (a : Option Addr) (n cap : Nat) (L : List It) (y : It) (h : RS itc 2 w a n cap L) (h0 : n = 0 → a = none ∧ cap = 0) (hn : n ≤ 1000000) : Calls Tryd.prog 40 #[.slice a n cap, .agg #[.int .u64 (y.1 : Int), .int .i64 y.2]] w (Puts w L y) := by
  rcases Nat.eq_zero_or_pos n with e | e
  · obtain ⟨rfl, rfl⟩ := h0 e
    subst e
    obtain rfl : L = [] := List.eq_nil_of_length_eq_zero h.2
    exact put_none y w
  · obtain ⟨b, off, rfl, _⟩ := h.at itc_len e
    exact put_some b off n cap L y w h e hn
end Go.Proofs.YtcjifjfcjimefaaDoor.xf

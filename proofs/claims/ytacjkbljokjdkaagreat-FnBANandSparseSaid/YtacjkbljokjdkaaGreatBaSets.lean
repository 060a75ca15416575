/-
  The specification's BANew; lists of bits of two.
-/
import Derived.Test.YtacjkbljokjdkaaGreatBaPut
namespace Go.Proofs.YtacjkbljokjdkaaGreat.ba
open Go.RowKit Go.Proofs.YtacjkbljokjdkaaGreat.base Go.Proofs.YtacjkbljokjdkaaGreat.heap Go.Proofs.YtacjkbljokjdkaaGreat.rows Go.Proofs.YtacjkbljokjdkaaGreat.bit Go.Proofs.YtacjkbljokjdkaaGreat.bs
set_option linter.unusedVariables false
theorem new_old' (w : World) (A B : Obj) : ((w.alloc A).alloc B).heap[w.heap.size]? = some A := by
  show ((w.heap.push A).push B)[w.heap.size]? = _
  rw [Array.getElem?_push, if_neg (by simp), Array.getElem?_push, if_pos rfl]
theorem ret_arr {Q : Ending → World → Prop} {tmps : Array Value} {w3 : World} {r : Nat} {y n s : Value} (h4 : tmps[4]? = some (.pointer (some ⟨r, 0, none⟩)))
    (hob : w3.heap[r]? = some (.cells #[y, n, s] 36 (0, 0))) (hQ : Q (.returned (.agg #[y, n, s])) w3) :
    bodyPost Tryz.prog Tryz.f26 Q Exit.ret { tmps := tmps, defers := [] } w3 := by
  have c0 : w3.cell? ⟨r, 0, none⟩ = some y := block_cell hob rfl
  have c1 : w3.cell? ⟨r, 1, none⟩ = some n := block_cell hob rfl
  have c2 : w3.cell? ⟨r, 2, none⟩ = some s := block_cell hob rfl
  clear hob
  simp [bodyPost, results, Tryz.results26, go_sem, h4, c0, c1, c2]
  exact hQ
set_option maxRecDepth 100000 in
set_option maxHeartbeats 1600000 in
theorem baNew0 (k : Nat) (hk : k ≤ 1000000) (w : World) : Calls Tryz.prog 26 #[uv k, .bool false] w (FV w (.agg #[.bool true, uv ((k + 63) / 64), .slice none 0 0])) := by
  have e1 : IntKind.u64.wrap ((k : Int) + 63) = (k : Int) + 63 := by rw [IntKind.wrap_u64]; omega
  obtain ⟨q, hq⟩ : ∃ q : Nat, (k + 63) / 64 = q := ⟨_, rfl⟩
  have hqq : ((k : Int) + 63) / 64 = (q : Int) := by omega
  have hqw : IntKind.u64.wrap (q : Int) = (q : Int) := by rw [IntKind.wrap_u64]; omega
  unfold uv
  rw [hq]
  clear hq
  have HS : Hid (∀ A B w', w' = ((w.alloc A).alloc B) → Same w w') := Lib.hid (fun A B w' h => by rw [h]; exact ((Only.refl _ _).alloc _).alloc _)
  go_enter Tryz.func26, Tryz.ntmps26
  go_wp2_with fail
  obtain ⟨s, hs⟩ : ∃ s, w.heap.size = s := ⟨_, rfl⟩
  obtain ⟨p, hp⟩ : ∃ p, s + 1 = p := ⟨_, rfl⟩
  have HSP : Hid (w.heap.size ≤ s ∧ w.heap.size ≤ p ∧ s ≠ p) := Lib.hid (by omega)
  rw [hs, hp]
  go_loopw [6] (fun i wr => i = .int .u64 0 ∧ Hid (Same w wr ∧ wr.heap[s]? = some (.cells #[.bool false, .int .u64 0, .slice none 0 0] 36 (0, 0)) ∧ wr.heap[p]? = some (.cells #[.bool true, .int .u64 (q : Int), .slice none 0 0] 36 (0, 0)))) (fun i _ => 0)
  case atStart =>
    exact ⟨rfl, Lib.hid ⟨HS.out _ _ _ rfl, by rw [← hs]; exact new_old' w _ _, by rw [← hp, ← hs]; exact heap_alloc_new' _ _ _ (by rw [World.size_alloc])⟩⟩
  case round =>
    obtain ⟨rfl, HI⟩ := hrel
    have c1 : wr.cell? ⟨p, 1, none⟩ = some (.int .u64 (q : Int)) := block_cell HI.out.2.2 rfl
    have c0 : wr.cell? ⟨p, 0, none⟩ = some (.bool true) := block_cell HI.out.2.2 rfl
    have c2 : wr.cell? ⟨p, 2, none⟩ = some (.slice none 0 0) := block_cell HI.out.2.2 rfl
    have d0 : wr.cell? ⟨s, 0, none⟩ = some (.bool false) := block_cell HI.out.2.1 rfl
    have d1 : wr.cell? ⟨s, 1, none⟩ = some (.int .u64 0) := block_cell HI.out.2.1 rfl
    have d2 : wr.cell? ⟨s, 2, none⟩ = some (.slice none 0 0) := block_cell HI.out.2.1 rfl
    have f1 : ∀ j, wr.frozen? ⟨s, j, none⟩ = false := fun j => block_free HI.out.2.1
    go_wp2_with fail
    refine ret_arr rfl (setCell_heap (setCell_heap (setCell_heap HI.out.2.1 0 _) 1 _) 2 _) ⟨rfl, ?_⟩
    exact ((HI.out.1.setCell _ _ (fun h => absurd HSP.out.1 (by simp at h; omega))).setCell _ _ (fun h => absurd HSP.out.1 (by simp at h; omega))).setCell _ _ (fun h => absurd HSP.out.1 (by simp at h; omega))
/-- a list that is read, its elements one by one -/
theorem filter_snoc (p : Nat → Bool) (l : List Nat) (k x : Nat) (h : l[k]? = some x) : (l.take (k + 1)).filter p = (l.take k).filter p ++ if p x then [x] else [] := by
  rw [take_snoc l k x h, List.filter_append]
  simp only [List.filter_cons, List.filter_nil]
section
variable {w : World} {a b : Option Addr} {n cap m cb : Nat} {l l2 : List Nat}
set_option maxRecDepth 100000 in
set_option maxHeartbeats 1600000 in
theorem baAnd (h : RL uv w a n cap l) (h2 : RL uv w b m cb l2) (hs2 : Asc l2) (hn : n ≤ 1000000) : Calls Tryz.prog 11 #[.slice a n cap, .slice b m cb] w (PutP (andL l l2) none w) := by
  have hbd := h.bound
  have H := Lib.hid h
  have HH : Hid (∀ K wx, Same w wx → Calls Tryz.prog 23 #[.slice b m cb, .int .u64 ((K : Nat) : Int)] wx (FV wx (.bool (decide (K ∈ l2))))) := Lib.hid (fun K wx hS => baHas (h2.still hS) hs2 K)
  clear h h2 hs2
  go_enter Tryz.func11, Tryz.ntmps11
  go_wp2_with fail
  go_loopw [5, 6] (fun o i wr => ∃ (k j : Nat) (oa : Option Addr) (oc : Nat), o = .slice oa j oc ∧ i = .int .i64 (k : Int) ∧ k ≤ n ∧ j ≤ k ∧ Hid (OU wr oa j oc (andL (l.take k) l2) ∧ Same w wr ∧ ∀ q, At oa q → w.heap.size ≤ q)) (fun _ i _ => n - (intOf i).toNat)
  case atStart => exact ⟨0, 0, none, 0, rfl, rfl, Nat.zero_le _, Nat.le_refl _, Lib.hid ⟨OU.nil _, Only.refl _ _, fun q hq => hq.elim⟩⟩
  case round =>
    obtain ⟨k, j, oa, oc, rfl, rfl, hk, hj, HO⟩ := hrel
    have hbo := HO.out.1.bound
    by_cases hlt : k < n
    · have hlt' : (k : Int) < (n : Int) := by omega
      have hk0 : (0 : Int) ≤ (k : Int) := by omega
      obtain ⟨b1, o1, ha1, hb1, hc1⟩ := (H.out.still HO.out.2.1).at (by omega)
      obtain ⟨x, hx⟩ := H.out.get hlt
      have c1 := hc1 k x hx
      have HX := Lib.hid hx
      have HHx : Hid (∀ wx, Same wr wx → Calls Tryz.prog 23 #[.slice b m cb, .int .u64 (x : Int)] wx (FV wx (.bool (decide (x ∈ l2))))) := Lib.hid (fun wx hS => HH.out x wx (Same.trans HO.out.2.1 hS))
      subst ha1
      clear hc1 hx
      by_cases hm : x ∈ l2
      · have hd : decide (x ∈ l2) = true := by simp [hm]
        rw [hd] at HHx
        have HFS : Hid (andL (l.take (k + 1)) l2 = andL (l.take k) l2 ++ [x]) := Lib.hid (by unfold andL; rw [filter_snoc _ _ _ _ HX.out]; simp [hm])
        clear hm hd
        go_wp2_with fail
        refine (HHx.out _ (Only.refl _ _)).mono ?_
        rintro e w2 ⟨rfl, hS2⟩
        have HS2 := Lib.hid hS2
        have c2 : w2.cell? ⟨b1, o1 + k, none⟩ = some (.int .u64 (x : Int)) := (hS2.cell (p := ⟨b1, o1 + k, none⟩) hb1 id).trans c1
        have HOW : Hid (Own 34 1 w2 oa j oc (U (andL (l.take k) l2))) := Lib.hid (HO.out.1.still hS2).1
        clear hS2 HHx c1
        go_wp2_with (at_builtin; refine wpList_append (j + 1) (U (andL (l.take k) l2) ++ U [x]) rfl _ _ _ _ rfl slWord rfl (HOW.out.keep (S := fun _ => False) (by repeat (first | exact Only.refl _ _ | apply Only.alloc | apply Only.drew)) (fun _ _ => id)) rfl (Src.row (size := 1) (cs := #[.int .u64 (x : Int)]) (t := 34) (fr := (0, 0)) Tryz.underlying24 (by exact heap_alloc_new _ _) 1 1 rfl (by simp [Value.oneCell'])) rfl rfl (by unfold maxLen; omega) (by omega) ?_)
        intro oa2 oc2 w3 hG
        have HN : Hid (OU w3 oa2 (j + 1) oc2 (andL (l.take (k + 1)) l2) ∧ Same w w3 ∧ ∀ q, At oa2 q → w.heap.size ≤ q) := Lib.hid ⟨⟨by rw [HFS.out, U_app]; exact hG.own, by rw [HFS.out, List.length_append, HO.out.1.2]; rfl⟩, new_only (S := At oa) (Same.trans HO.out.2.1 (Same.trans HS2.out ((Only.refl _ _).alloc _))) hG.only HO.out.2.2, fun q hq => (hG.fresh q hq).elim (HO.out.2.2 q) (fun h => by have h1 := HO.out.2.1.size; have h2 := HS2.out.size; simp at h; omega)⟩
        clear hG HOW HS2 c2
        go_wp2_with fail
        go_roundw
        case rel => exact ⟨k + 1, j + 1, oa2, oc2, rfl, by go_num, by omega, by omega, HN⟩
        case measure => simp [intOf]; omega
      · have hd : decide (x ∈ l2) = false := by simp [hm]
        rw [hd] at HHx
        have HFS : Hid (andL (l.take (k + 1)) l2 = andL (l.take k) l2 ++ []) := Lib.hid (by unfold andL; rw [filter_snoc _ _ _ _ HX.out]; simp [hm])
        clear hm hd
        go_wp2_with fail
        refine (HHx.out _ (Only.refl _ _)).mono ?_
        rintro e w2 ⟨rfl, hS2⟩
        have HN : Hid (OU w2 oa j oc (andL (l.take (k + 1)) l2) ∧ Same w w2 ∧ ∀ q, At oa q → w.heap.size ≤ q) := Lib.hid ⟨by rw [HFS.out, List.append_nil]; exact HO.out.1.still hS2, Same.trans HO.out.2.1 hS2, HO.out.2.2⟩
        clear hS2 HHx c1
        go_wp2_with fail
        go_roundw
        case rel => exact ⟨k + 1, j, oa, oc, rfl, by go_num, by omega, by omega, HN⟩
        case measure => simp [intOf]; omega
    · have hlt' : ¬ (k : Int) < (n : Int) := by omega
      obtain rfl : k = n := by omega
      have HT : Hid (l.take k = l) := Lib.hid (List.take_of_length_le (by rw [H.out.2]; exact Nat.le_refl _))
      rw [HT.out] at HO
      go_wp2_with fail
      go_ret
      have hl := HO.out.1.2
      exact ⟨oa, oc, by rw [hl]; rfl, by rw [hl]; exact HO.out.1, HO.out.2.1, fun q hq => .inr (HO.out.2.2 q hq)⟩
set_option maxRecDepth 100000 in
set_option maxHeartbeats 1600000 in
theorem baNand (h : RL uv w a n cap l) (h2 : RL uv w b m cb l2) (hs2 : Asc l2) (hn : n ≤ 1000000) : Calls Tryz.prog 16 #[.slice a n cap, .slice b m cb] w (PutP (nandL l l2) none w) := by
  have hbd := h.bound
  have H := Lib.hid h
  have HH : Hid (∀ K wx, Same w wx → Calls Tryz.prog 23 #[.slice b m cb, .int .u64 ((K : Nat) : Int)] wx (FV wx (.bool (decide (K ∈ l2))))) := Lib.hid (fun K wx hS => baHas (h2.still hS) hs2 K)
  clear h h2 hs2
  go_enter Tryz.func16, Tryz.ntmps16
  go_wp2_with fail
  go_loopw [5, 6] (fun o i wr => ∃ (k j : Nat) (oa : Option Addr) (oc : Nat), o = .slice oa j oc ∧ i = .int .i64 (k : Int) ∧ k ≤ n ∧ j ≤ k ∧ Hid (OU wr oa j oc (nandL (l.take k) l2) ∧ Same w wr ∧ ∀ q, At oa q → w.heap.size ≤ q)) (fun _ i _ => n - (intOf i).toNat)
  case atStart => exact ⟨0, 0, none, 0, rfl, rfl, Nat.zero_le _, Nat.le_refl _, Lib.hid ⟨OU.nil _, Only.refl _ _, fun q hq => hq.elim⟩⟩
  case round =>
    obtain ⟨k, j, oa, oc, rfl, rfl, hk, hj, HO⟩ := hrel
    have hbo := HO.out.1.bound
    by_cases hlt : k < n
    · have hlt' : (k : Int) < (n : Int) := by omega
      have hk0 : (0 : Int) ≤ (k : Int) := by omega
      obtain ⟨b1, o1, ha1, hb1, hc1⟩ := (H.out.still HO.out.2.1).at (by omega)
      obtain ⟨x, hx⟩ := H.out.get hlt
      have c1 := hc1 k x hx
      have HX := Lib.hid hx
      have HHx : Hid (∀ wx, Same wr wx → Calls Tryz.prog 23 #[.slice b m cb, .int .u64 (x : Int)] wx (FV wx (.bool (decide (x ∈ l2))))) := Lib.hid (fun wx hS => HH.out x wx (Same.trans HO.out.2.1 hS))
      subst ha1
      clear hc1 hx
      by_cases hm : x ∈ l2
      · have hd : decide (x ∈ l2) = true := by simp [hm]
        rw [hd] at HHx
        have HFS : Hid (nandL (l.take (k + 1)) l2 = nandL (l.take k) l2 ++ []) := Lib.hid (by unfold nandL; rw [filter_snoc _ _ _ _ HX.out]; simp [hm])
        clear hm hd
        go_wp2_with fail
        refine (HHx.out _ (Only.refl _ _)).mono ?_
        rintro e w2 ⟨rfl, hS2⟩
        have HN : Hid (OU w2 oa j oc (nandL (l.take (k + 1)) l2) ∧ Same w w2 ∧ ∀ q, At oa q → w.heap.size ≤ q) := Lib.hid ⟨by rw [HFS.out, List.append_nil]; exact HO.out.1.still hS2, Same.trans HO.out.2.1 hS2, HO.out.2.2⟩
        clear hS2 HHx c1
        go_wp2_with fail
        go_roundw
        case rel => exact ⟨k + 1, j, oa, oc, rfl, by go_num, by omega, by omega, HN⟩
        case measure => simp [intOf]; omega
      · have hd : decide (x ∈ l2) = false := by simp [hm]
        rw [hd] at HHx
        have HFS : Hid (nandL (l.take (k + 1)) l2 = nandL (l.take k) l2 ++ [x]) := Lib.hid (by unfold nandL; rw [filter_snoc _ _ _ _ HX.out]; simp [hm])
        clear hm hd
        go_wp2_with fail
        refine (HHx.out _ (Only.refl _ _)).mono ?_
        rintro e w2 ⟨rfl, hS2⟩
        have HS2 := Lib.hid hS2
        have c2 : w2.cell? ⟨b1, o1 + k, none⟩ = some (.int .u64 (x : Int)) := (hS2.cell (p := ⟨b1, o1 + k, none⟩) hb1 id).trans c1
        have HOW : Hid (Own 34 1 w2 oa j oc (U (nandL (l.take k) l2))) := Lib.hid (HO.out.1.still hS2).1
        clear hS2 HHx c1
        go_wp2_with (at_builtin; refine wpList_append (j + 1) (U (nandL (l.take k) l2) ++ U [x]) rfl _ _ _ _ rfl slWord rfl (HOW.out.keep (S := fun _ => False) (by repeat (first | exact Only.refl _ _ | apply Only.alloc | apply Only.drew)) (fun _ _ => id)) rfl (Src.row (size := 1) (cs := #[.int .u64 (x : Int)]) (t := 34) (fr := (0, 0)) Tryz.underlying24 (by exact heap_alloc_new _ _) 1 1 rfl (by simp [Value.oneCell'])) rfl rfl (by unfold maxLen; omega) (by omega) ?_)
        intro oa2 oc2 w3 hG
        have HN : Hid (OU w3 oa2 (j + 1) oc2 (nandL (l.take (k + 1)) l2) ∧ Same w w3 ∧ ∀ q, At oa2 q → w.heap.size ≤ q) := Lib.hid ⟨⟨by rw [HFS.out, U_app]; exact hG.own, by rw [HFS.out, List.length_append, HO.out.1.2]; rfl⟩, new_only (S := At oa) (Same.trans HO.out.2.1 (Same.trans HS2.out ((Only.refl _ _).alloc _))) hG.only HO.out.2.2, fun q hq => (hG.fresh q hq).elim (HO.out.2.2 q) (fun h => by have h1 := HO.out.2.1.size; have h2 := HS2.out.size; simp at h; omega)⟩
        clear hG HOW HS2 c2
        go_wp2_with fail
        go_roundw
        case rel => exact ⟨k + 1, j + 1, oa2, oc2, rfl, by go_num, by omega, by omega, HN⟩
        case measure => simp [intOf]; omega
    · have hlt' : ¬ (k : Int) < (n : Int) := by omega
      obtain rfl : k = n := by omega
      have HT : Hid (l.take k = l) := Lib.hid (List.take_of_length_le (by rw [H.out.2]; exact Nat.le_refl _))
      rw [HT.out] at HO
      go_wp2_with fail
      go_ret
      have hl := HO.out.1.2
      exact ⟨oa, oc, by rw [hl]; rfl, by rw [hl]; exact HO.out.1, HO.out.2.1, fun q hq => .inr (HO.out.2.2 q hq)⟩
end
end Go.Proofs.YtacjkbljokjdkaaGreat.ba

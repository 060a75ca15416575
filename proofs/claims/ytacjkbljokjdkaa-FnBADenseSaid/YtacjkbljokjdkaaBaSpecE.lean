/-
  The specification's BADrop, BACapacity, BANew with all bits.
-/
import Derived.Test.YtacjkbljokjdkaaBaSets
namespace Go.Proofs.Ytacjkbljokjdkaa.ba
open Go.RowKit Go.Proofs.Ytacjkbljokjdkaa.base Go.Proofs.Ytacjkbljokjdkaa.heap Go.Proofs.Ytacjkbljokjdkaa.rows Go.Proofs.Ytacjkbljokjdkaa.bit Go.Proofs.Ytacjkbljokjdkaa.bs
set_option linter.unusedVariables false
section
variable {w w' : World} {a : Option Addr} {n cap : Nat} {l : List Nat}
set_option maxRecDepth 100000 in
set_option maxHeartbeats 1600000 in
theorem baDrop (h : OU w a n cap l) (hs : Asc l) (K : Nat) (hn : n ≤ 1000000) : Calls Try.prog 16 #[.slice a n cap, uv K] w (PutP (drp l K) a w) := by
  have hbd := h.bound
  have HH := Lib.hid (baHas h.rl hs K)
  have HA : Hid (∀ wx, Same w wx → Calls Try.prog 23 #[.slice a n cap, uv K] wx (FV wx (.int .i64 (at_ l K : Nat)))) := Lib.hid (fun wx hS => baAt (h.rl.still hS) K)
  have H := Lib.hid h
  by_cases hm : K ∈ l
  · have hd : decide (K ∈ l) = true := by simp [hm]
    rw [hd] at HH
    have HP : Hid (drp l K = l.take (at_ l K) ++ l.drop (at_ l K + 1)) := Lib.hid (by unfold drp; rw [if_pos hm])
    have hmn : at_ l K + 1 ≤ n := by
      rw [← h.2]
      have := (mem_at hs).1 hm
      exact (List.getElem?_eq_some_iff.1 this).1
    obtain ⟨m, hmm⟩ : ∃ m, at_ l K = m := ⟨_, rfl⟩
    rw [hmm] at HP HA hmn
    clear hmm
    obtain ⟨m1, HM1⟩ : ∃ m1, Hid (m + 1 = m1) := ⟨_, Lib.hid rfl⟩
    rw [HM1.out] at HP hmn
    unfold uv at *
    have h0 : (0 : Int) ≤ (m : Int) := by omega
    have h1 : (m : Int) ≤ (n : Int) := by have := HM1.out; omega
    have h2 : (m : Int) ≤ (cap : Int) := by have := HM1.out; omega
    have h3 : IntKind.i64.wrap ((m : Int) + 1) = (m1 : Int) := by have := HM1.out; rw [IntWalk.i64_in _ (by omega)]; omega
    have h4 : (m1 : Int) ≤ (n : Int) := by omega
    have h5 : (0 : Int) ≤ (m1 : Int) := by omega
    have hmle : m ≤ n := by omega
    have HT : Hid (∀ wx, Same w wx → Src Try.prog 1 23 (.slice a m cap) m (U (l.take m)) wx) := Lib.hid (fun wx hS => (h.still hS).srcTake hmle)
    rcases h.alt with ⟨rfl, rfl, rfl⟩ | ⟨b, rfl, hb⟩
    · exact absurd hmn (by have := HM1.out; omega)
    · have HFIN : Hid (∀ a3 c3 w2 w3 w5 a1 c1 tl, n - m1 = tl → Same w w2 → Own 24 1 w3 a1 m c1 (U (l.take m)) ∧ Same w w3 ∧ (∀ j, At a1 j → w2.heap.size ≤ j) → Grew 24 1 w3 w5 a1 a3 tl (m + tl) c1 c3 (U (l.take m) ++ U (l.drop m1)) → PutP (drp l K) (some ⟨b, 0, none⟩) w (.returned (.slice a3 (m + tl) c3)) w5) := Lib.hid (by
        intro a3 c3 w2 w3 w5 a1 c1 tl htl hS2 hO hG
        have hlen : (drp l K).length = m + tl := by rw [HP.out, List.length_append, List.length_take, List.length_drop, H.out.2]; omega
        have hsz := hS2.size
        refine ⟨a3, c3, by rw [hlen], ⟨?_, rfl⟩, new_only hO.2.1 hG.only (fun j hj => by have := hO.2.2 j hj; omega), fun j hj => .inr ?_⟩
        · rw [hlen, HP.out, U_app]
          exact hG.own
        · rcases hG.fresh j hj with h | h
          · have := hO.2.2 j h; omega
          · have := hO.2.1.size; omega)
      by_cases hcap : m1 = cap
      · have hnm : n = m1 := by omega
        have HTL : Hid (n - m1 = 0) := Lib.hid (by omega)
        have HD : Hid (∀ wx, Same w wx → Src Try.prog 1 23 (.slice (some ⟨b, 0, none⟩) 0 0) 0 (U (l.drop m1)) wx) := Lib.hid (fun wx hS => by
          have e2 : l.drop m1 = [] := List.drop_eq_nil_of_le (by rw [h.2]; omega)
          rw [e2]
          exact Src.ofSlice _ Try.underlying23 _ 0 _ [] (by simp) (by simp) (by simp))
        subst hcap
        subst hnm
        clear h hs hm
        go_enter Try.func16, Try.ntmps16
        go_wp2_with fail
        refine HH.out.mono ?_
        rintro e w1 ⟨rfl, hS⟩
        have HSS := Lib.hid hS
        clear hS
        go_wp2_with fail
        refine (HA.out _ HSS.out).mono ?_
        rintro e w2 ⟨rfl, hS⟩
        have HS2 : Hid (Same w w2) := Lib.hid (Same.trans HSS.out hS)
        clear hS HSS
        go_wp2_with (at_builtin; refine wpList_append (0 + m) ([] ++ U (l.take m)) rfl _ _ _ _ rfl slWord rfl (Own.of_block (cur := #[]) (heap_alloc_new _ _) 0 0 (Nat.le_refl _) (by simp [maxLen]) rfl (by simp)) rfl (HT.out _ (Same.trans HS2.out ((Only.refl _ _).alloc _))) rfl rfl (by unfold maxLen; omega) (by omega) ?_)
        intro a1 c1 w3 hG
        have HOW : Hid (Own 24 1 w3 a1 m c1 (U (l.take m)) ∧ Same w w3 ∧ ∀ j, At a1 j → w2.heap.size ≤ j) := Lib.hid ⟨by simpa using hG.own, Same.trans HS2.out (new_only ((Only.refl _ _).alloc _) hG.only (fun j hj => by have : w2.heap.size = j := hj; omega)), fun j hj => by
          rcases hG.fresh j hj with h | h
          · have : w2.heap.size = j := h
            omega
          · simp at h; omega⟩
        clear hG
        go_wp2_with (at_builtin; refine wpList_append (m + 0) (U (l.take m) ++ U (l.drop n)) rfl _ _ _ _ rfl slWord rfl HOW.out.1 rfl (HD.out _ HOW.out.2.1) rfl rfl (by unfold maxLen; omega) (by omega) ?_)
        intro a3 c3 w5 hG5
        have HF := Lib.hid (HFIN.out a3 c3 w2 w3 w5 a1 c1 0 HTL.out HS2.out HOW.out hG5)
        clear hG5
        go_wp2_with fail
        go_ret
        exact HF.out
      · have HD : Hid (∀ wx, Same w wx → Src Try.prog 1 23 (.slice (some ⟨b, m1, none⟩) (n - m1) (cap - m1)) (n - m1) (U (l.drop m1)) wx) := Lib.hid (fun wx hS => (h.still hS).srcDrop hmn)
        have hcap' : ¬ (cap : Int) = (m1 : Int) := by omega
        have hcap2 : ¬ cap = m1 := by omega
        clear h hs hm
        go_enter Try.func16, Try.ntmps16
        go_wp2_with fail
        refine HH.out.mono ?_
        rintro e w1 ⟨rfl, hS⟩
        have HSS := Lib.hid hS
        clear hS
        go_wp2_with fail
        refine (HA.out _ HSS.out).mono ?_
        rintro e w2 ⟨rfl, hS⟩
        have HS2 : Hid (Same w w2) := Lib.hid (Same.trans HSS.out hS)
        clear hS HSS
        go_wp2_with (at_builtin; refine wpList_append (0 + m) ([] ++ U (l.take m)) rfl _ _ _ _ rfl slWord rfl (Own.of_block (cur := #[]) (heap_alloc_new _ _) 0 0 (Nat.le_refl _) (by simp [maxLen]) rfl (by simp)) rfl (HT.out _ (Same.trans HS2.out ((Only.refl _ _).alloc _))) rfl rfl (by unfold maxLen; omega) (by omega) ?_)
        intro a1 c1 w3 hG
        have HOW : Hid (Own 24 1 w3 a1 m c1 (U (l.take m)) ∧ Same w w3 ∧ ∀ j, At a1 j → w2.heap.size ≤ j) := Lib.hid ⟨by simpa using hG.own, Same.trans HS2.out (new_only ((Only.refl _ _).alloc _) hG.only (fun j hj => by have : w2.heap.size = j := hj; omega)), fun j hj => by
          rcases hG.fresh j hj with h | h
          · have : w2.heap.size = j := h
            omega
          · simp at h; omega⟩
        clear hG
        go_wp2_with (at_builtin; refine wpList_append (m + (n - m1)) (U (l.take m) ++ U (l.drop m1)) rfl _ _ _ _ rfl slWord rfl HOW.out.1 rfl (HD.out _ HOW.out.2.1) rfl rfl (by unfold maxLen; omega) (by omega) ?_)
        intro a3 c3 w5 hG5
        have HF := Lib.hid (HFIN.out a3 c3 w2 w3 w5 a1 c1 (n - m1) rfl HS2.out HOW.out hG5)
        clear hG5
        go_wp2_with fail
        go_ret
        exact HF.out
  · have hd : decide (K ∈ l) = false := by simp [hm]
    rw [hd] at HH
    have HP : Hid (drp l K = l) := Lib.hid (by unfold drp; rw [if_neg hm])
    unfold uv at *
    clear h hs hm
    go_enter Try.func16, Try.ntmps16
    go_wp2_with fail
    refine HH.out.mono ?_
    rintro e w1 ⟨rfl, hS⟩
    have HSS := Lib.hid hS
    clear hS
    go_wp2_with fail
    go_ret
    rw [HP.out]
    exact ⟨a, cap, by rw [H.out.2]; rfl, by rw [H.out.2]; exact H.out.still HSS.out, HSS.out, fun k hk => .inl hk⟩
end
set_option maxRecDepth 100000 in
set_option maxHeartbeats 1600000 in
theorem baCapD (q : Nat) (hq : q ≤ 1000000) (sa : Option Addr) (j sc : Nat) (w : World) : Calls Try.prog 18 #[.agg #[.bool true, .int .u64 (q : Int), .slice sa j sc]] w (FV w (.int .u64 ((64 * q : Nat) : Int))) := by
  have e1 : IntKind.u64.wrap (64 * (q : Int)) = ((64 * q : Nat) : Int) := by rw [IntKind.wrap_u64]; omega
  have e2 : ((64 * q : Nat) : Int) = 64 * (q : Int) := by omega
  have HS : Hid (∀ X : Obj, Same w (w.alloc X)) := Lib.hid (fun X => (Only.refl _ _).alloc _)
  rw [e2] at e1 ⊢
  clear e2
  go_enter Try.func18, Try.ntmps18
  go_wp2_with fail
  go_ret
  exact ⟨rfl, HS.out _⟩
/-- a dense array with all bits set, by the specification -/
def NewP (q : Nat) (w : World) (e : Ending) (w' : World) : Prop := ∃ sa sc, e = .returned (.agg #[.bool true, .int .u64 (q : Int), .slice sa (64 * q) sc]) ∧ OU w' sa (64 * q) sc (List.range (64 * q)) ∧ Same w w' ∧ ∀ k, At sa k → w.heap.size ≤ k
set_option maxRecDepth 100000 in
set_option maxHeartbeats 1600000 in
theorem baNew1 (k : Nat) (hk : k ≤ 10000) (w : World) : Calls Try.prog 8 #[uv k, .bool true] w (NewP ((k + 63) / 64) w) := by
  have e1 : IntKind.u64.wrap ((k : Int) + 63) = (k : Int) + 63 := by rw [IntKind.wrap_u64]; omega
  obtain ⟨q, hq⟩ : ∃ q : Nat, (k + 63) / 64 = q := ⟨_, rfl⟩
  have hqq : ((k : Int) + 63) / 64 = (q : Int) := by omega
  have hqw : IntKind.u64.wrap (q : Int) = (q : Int) := by rw [IntKind.wrap_u64]; omega
  obtain ⟨N, HN⟩ : ∃ N, Hid (64 * q = N) := ⟨_, Lib.hid rfl⟩
  have hN : N ≤ 100000 := by have := HN.out; omega
  have e3 : IntKind.u64.wrap (64 * (q : Int)) = (N : Int) := by have := HN.out; rw [IntKind.wrap_u64]; omega
  unfold uv NewP
  rw [hq, HN.out]
  clear hq
  have HS : Hid (∀ A B w', w' = ((w.alloc A).alloc B) → Same w w') := Lib.hid (fun A B w' h => by rw [h]; exact ((Only.refl _ _).alloc _).alloc _)
  go_enter Try.func8, Try.ntmps8
  go_wp2_with fail
  obtain ⟨s, hs⟩ : ∃ s, w.heap.size = s := ⟨_, rfl⟩
  obtain ⟨p, hp⟩ : ∃ p, s + 1 = p := ⟨_, rfl⟩
  have HSP : Hid (w.heap.size ≤ s ∧ w.heap.size ≤ p ∧ s ≠ p) := Lib.hid (by omega)
  have hsp : s ≠ p := by omega
  rw [hs, hp]
  try rw [hqq]
  go_loopw [6] (fun i wr => ∃ (j : Nat) (sa : Option Addr) (sc : Nat), j ≤ N ∧ i = .int .u64 (j : Int) ∧ Hid (Same w wr ∧ wr.heap[s]? = some (.cells #[.bool false, .int .u64 0, .slice none 0 0] 29 (0, 0)) ∧ wr.heap[p]? = some (.cells #[.bool true, .int .u64 (q : Int), .slice sa j sc] 29 (0, 0)) ∧ OU wr sa j sc (List.range j) ∧ (∀ i, At sa i → w.heap.size ≤ i ∧ i ≠ s ∧ i ≠ p))) (fun i _ => N - (intOf i).toNat)
  case atStart =>
    exact ⟨0, none, 0, Nat.zero_le _, rfl, Lib.hid ⟨HS.out _ _ _ rfl, by rw [← hs]; exact new_old' w _ _, by rw [← hp, ← hs]; exact heap_alloc_new' _ _ _ (by rw [World.size_alloc]), OU.nil _, fun i hi => hi.elim⟩⟩
  case round =>
    obtain ⟨j, sa, sc, hj, rfl, HI⟩ := hrel
    have c1 : wr.cell? ⟨p, 1, none⟩ = some (.int .u64 (q : Int)) := block_cell HI.out.2.2.1 rfl
    have c0 : wr.cell? ⟨p, 0, none⟩ = some (.bool true) := block_cell HI.out.2.2.1 rfl
    have c2 : wr.cell? ⟨p, 2, none⟩ = some (.slice sa j sc) := block_cell HI.out.2.2.1 rfl
    by_cases hlt : j < N
    · have hlt' : (j : Int) < (N : Int) := by omega
      have bb := HI.out.2.2.2.1.bound
      go_wp2_with (at_builtin; refine wpList_append (j + 1) (U (List.range j) ++ U [j]) rfl _ _ _ _ rfl slWord rfl (HI.out.2.2.2.1.1.keep (S := fun _ => False) (by repeat (first | exact Only.refl _ _ | apply Only.alloc | apply Only.drew)) (fun _ _ => id)) rfl (Src.row (size := 1) (cs := #[.int .u64 (j : Int)]) (t := 24) (fr := (0, 0)) Try.underlying23 (by exact heap_alloc_new _ _) 1 1 rfl (by intro u hu; simp at hu; subst hu; rfl)) rfl rfl (by unfold maxLen; omega) (by omega) ?_)
      intro a2 cc2 w2 hG
      have hold : Only (At sa) wr w2 := ((Only.refl (At sa) wr).alloc _).trans hG.only (fun _ _ h => h)
      have N2 : Hid (w2.heap[p]? = some (.cells #[.bool true, .int .u64 (q : Int), .slice sa j sc] 29 (0, 0))) := Lib.hid (hold.obj HI.out.2.2.1 (fun h => (HI.out.2.2.2.2 p h).2.2 rfl))
      have f2 : w2.frozen? ⟨p, 2, none⟩ = false := block_free N2.out
      have d2 : w2.cell? ⟨p, 2, none⟩ = some (.slice sa j sc) := block_cell N2.out rfl
      have HN2 : Hid (Same w (w2.setCell ⟨p, 2, none⟩ (.slice a2 (j + 1) cc2)) ∧ (w2.setCell ⟨p, 2, none⟩ (.slice a2 (j + 1) cc2)).heap[s]? = some (.cells #[.bool false, .int .u64 0, .slice none 0 0] 29 (0, 0)) ∧ (w2.setCell ⟨p, 2, none⟩ (.slice a2 (j + 1) cc2)).heap[p]? = some (.cells #[.bool true, .int .u64 (q : Int), .slice a2 (j + 1) cc2] 29 (0, 0)) ∧ OU (w2.setCell ⟨p, 2, none⟩ (.slice a2 (j + 1) cc2)) a2 (j + 1) cc2 (List.range (j + 1)) ∧ (∀ i, At a2 i → w.heap.size ≤ i ∧ i ≠ s ∧ i ≠ p)) := Lib.hid (by
        have hfr : ∀ i, At a2 i → w.heap.size ≤ i ∧ i ≠ s ∧ i ≠ p := fun i hi => by
          rcases hG.fresh i hi with h1 | h1
          · exact HI.out.2.2.2.2 i h1
          · have h2 := HI.out.1.size
            have h3 := lt_of_heap HI.out.2.1
            have h4 := lt_of_heap HI.out.2.2.1
            have h5 : wr.heap.size + 1 ≤ i := by simpa using h1
            omega
        have hoP : Only (fun i => i = p) w2 (w2.setCell ⟨p, 2, none⟩ (.slice a2 (j + 1) cc2)) := (Only.refl _ _).setCell _ _ (fun _ => rfl)
        refine ⟨(new_only HI.out.1 hold (fun i hi => (HI.out.2.2.2.2 i hi).1)).setCell _ _ (fun h => absurd HSP.out.2.1 (by simp at h; omega)), hoP.obj (hold.obj HI.out.2.1 (fun h => (HI.out.2.2.2.2 s h).2.1 rfl)) hsp, setCell_heap N2.out 2 _, ⟨?_, by rw [List.length_range]⟩, hfr⟩
        rw [List.range_succ, U_app]
        exact hG.own.keep hoP (fun i hi e => (hfr i hi).2.2 e))
      clear hG hold
      go_wp2_with fail
      go_roundw
      case rel => exact ⟨j + 1, a2, cc2, by omega, by go_num, HN2⟩
      case measure => simp [intOf]; omega
    · have hlt' : ¬ (j : Int) < (N : Int) := by omega
      obtain rfl : j = N := by omega
      have d0 : wr.cell? ⟨s, 0, none⟩ = some (.bool false) := block_cell HI.out.2.1 rfl
      have d1 : wr.cell? ⟨s, 1, none⟩ = some (.int .u64 0) := block_cell HI.out.2.1 rfl
      have d2 : wr.cell? ⟨s, 2, none⟩ = some (.slice none 0 0) := block_cell HI.out.2.1 rfl
      have f1 : ∀ j, wr.frozen? ⟨s, j, none⟩ = false := fun j => block_free HI.out.2.1
      go_wp2_with fail
      have hoS : Only (fun i => i = s) wr (((wr.setCell ⟨s, 0, none⟩ (.bool true)).setCell ⟨s, 1, none⟩ (.int .u64 (q : Int))).setCell ⟨s, 2, none⟩ (.slice sa j sc)) := (((Only.refl (fun i => i = s) wr).setCell ⟨s, 0, none⟩ (.bool true) (fun _ => rfl)).setCell ⟨s, 1, none⟩ (.int .u64 (q : Int)) (fun _ => rfl)).setCell ⟨s, 2, none⟩ (.slice sa j sc) (fun _ => rfl)
      refine ret_arr rfl (setCell_heap (setCell_heap (setCell_heap HI.out.2.1 0 _) 1 _) 2 _) ⟨sa, sc, rfl, ⟨HI.out.2.2.2.1.1.keep hoS (fun i hi e => (HI.out.2.2.2.2 i hi).2.1 e), by rw [List.length_range]⟩, ?_, fun i hi => by have := (HI.out.2.2.2.2 i hi).1; omega⟩
      exact new_only HI.out.1 hoS (fun i e => by have := HSP.out.1; omega)
end Go.Proofs.Ytacjkbljokjdkaa.ba

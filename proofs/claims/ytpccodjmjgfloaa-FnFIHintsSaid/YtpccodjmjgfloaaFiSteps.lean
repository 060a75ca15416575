/-
  fiSteps: steps of ops 1 to 6, at most 200.
-/
import Derived.Test.YtpccodjmjgfloaaFiTwice
import Derived.Deep.CutRange
import Derived.Deep.DeepCutAuto
import Derived.Deep.CutBlock
import Derived.Deep.RegionHeld3
import Derived.Deep.RegionLaw
namespace Go.Proofs.Ytpccodjmjgfloaa.fi
open Go.RowKit Go.Proofs.Ytpccodjmjgfloaa.base Go.Proofs.Ytpccodjmjgfloaa.heap Go.Proofs.Ytpccodjmjgfloaa.rows
set_option linter.unusedVariables false

theorem slStp : SliceOf Try.prog 37 43 3 24 := SliceOf.mk (z := .agg #[.int .i64 0, .int .u64 0, .int .u64 0]) Try.underlying37 (by kernel_rfl) rfl
theorem tmod6 (x : Int) : -5 ≤ x.tmod 6 ∧ x.tmod 6 ≤ 5 := by
  have key : ∀ y : Int, 0 ≤ y → 0 ≤ y.tmod 6 ∧ y.tmod 6 ≤ 5 := fun y hy => by
    rw [Int.tmod_eq_emod_of_nonneg hy]; omega
  rcases Int.le_total 0 x with h | h
  · have := key x h; omega
  · have := key (-x) (by omega)
    rw [Int.neg_tmod] at this
    omega
theorem flat_set : ∀ (R : List Stp) (j : Nat) (s : Stp), R[j]? = some s → (R.flatMap stc).set (j * 3) (.int .i64 3) = (R.set j ⟨3, s.k, s.v⟩).flatMap stc
  | [], j, s, h => by simp at h
  | x :: R, 0, s, h => by simp at h; subst h; rfl
  | x :: R, j + 1, s, h => by
    have ih := flat_set R j s (by simpa using h)
    rw [List.set_cons_succ, List.flatMap_cons, List.flatMap_cons, ← ih]
    rw [show (j + 1) * 3 = j * 3 + 1 + 1 + 1 by omega]
    rfl
def Fine (R : List Stp) : Prop := ∀ s ∈ R, 1 ≤ s.op ∧ s.op ≤ 6 ∧ s.k < B64 ∧ s.v < B64

theorem grown {w wr w20 : World} {k : Nat} {oa oa2 : Option Addr} {oc oc2 : Nat} {R : List Stp} {o o2 : Obj} {q : Stp} (h : Own 43 3 wr oa k oc (R.flatMap stc) ∧ R.length = k ∧ Fine R ∧ Same w wr ∧ ∀ j, At oa j → w.heap.size ≤ j)
    (hG : Grew 43 3 ((wr.alloc o).alloc o2).drew w20 oa oa2 1 (k + 1) oc oc2 (R.flatMap stc ++ stc q)) (hq : 1 ≤ q.op ∧ q.op ≤ 6 ∧ q.k < B64 ∧ q.v < B64) :
    Own 43 3 w20 oa2 (k + 1) oc2 ((R ++ [q]).flatMap stc) ∧ (R ++ [q]).length = k + 1 ∧ Fine (R ++ [q]) ∧ Same w w20 ∧ ∀ j, At oa2 j → w.heap.size ≤ j := by
  obtain ⟨h1, h2, h3, h4, h5⟩ := h
  have hs := h4.size
  refine ⟨by rw [List.flatMap_append]; simpa using hG.own, by rw [List.length_append, h2]; rfl, fun s hs' => ?_, ?_, fun j hj => ?_⟩
  · rcases List.mem_append.1 hs' with h | h
    · exact h3 s h
    · simp at h; subst h; exact hq
  · have hO : Only (At oa) wr w20 := Only.trans (S := At oa) (((Only.refl (At oa) wr).alloc o).alloc o2).drew hG.only (fun _ _ h => h)
    exact Only.trans h4 hO (fun j hj h => by have := h5 j h; omega)
  · rcases hG.fresh j hj with h | h
    · exact h5 j h
    · have h6 : (((wr.alloc o).alloc o2).drew).heap.size = wr.heap.size + 1 + 1 := by show ((wr.heap.push o).push o2).size = _; rw [Array.size_push, Array.size_push]
      omega

set_option maxRecDepth 100000 in
set_option maxHeartbeats 3200000 in
theorem steps (a : Option Addr) (n cap : Nat) (l : List Stp) (w : World) (hl : RP w a n cap l) (hs : ∀ s ∈ l, -9223372036854775808 ≤ s.op ∧ s.op ≤ 9223372036854775807 ∧ s.k < B64 ∧ s.v < B64) : Calls Try.prog 11 #[.slice a n cap] w fun e w' => ∃ oa m oc R, e = .returned (.slice oa m oc) ∧ Hid (RP w' oa m oc R ∧ m ≤ 200 ∧ Fine R ∧ Same w w') := by
  have hbd := hl.1.bound
  have HR : Hid (∀ wx, Same w wx → RP wx a n cap l) := Lib.hid (fun wx hx => hl.keep hx (fun _ _ => id))
  have HL := Lib.hid hl.2
  have HS := Lib.hid hs
  clear hl hs
  go_enter Try.func11, Try.ntmps11
  go_wp2_with fail
  go_loopw [3, 4] (fun o x wr => ∃ (k : Nat) (oa : Option Addr) (oc : Nat) (R : List Stp), k ≤ n ∧ k ≤ 200 ∧ o = .slice oa k oc ∧ x = .int .i64 (k : Int) ∧ Hid (Own 43 3 wr oa k oc (R.flatMap stc) ∧ R.length = k ∧ Fine R ∧ Same w wr ∧ ∀ j, At oa j → w.heap.size ≤ j)) (fun _ x _ => 200 - (intOf x).toNat)
  case atStart => exact ⟨0, none, 0, [], Nat.zero_le _, Nat.zero_le _, rfl, rfl, Lib.hid ⟨Own.nil _ _ _, rfl, fun s h => (nomatch h), Only.refl _ _, fun j h => h.elim⟩⟩
  case round =>
    obtain ⟨k, oa, oc, R, hk, hk2, rfl, rfl, HI⟩ := hrel
    have hbo : k ≤ oc ∧ oc ≤ 9223372036854775807 := ⟨HI.out.1.le, by have := HI.out.1.max; unfold maxLen at this; omega⟩
    by_cases hlt : k < n
    · have hlt' : (k : Int) < (n : Int) := by omega
      by_cases hlt2 : k < 200
      · have hlt2' : (k : Int) < 200 := by omega
        obtain ⟨b, off, rfl, hb, hc⟩ := (HR.out wr HI.out.2.2.2.1).at (by omega)
        obtain ⟨s, hsk⟩ : ∃ s, l[k]? = some s := ⟨l[k]'(by rw [HL.out]; omega), List.getElem?_eq_getElem _⟩
        obtain ⟨c0, c1, c2⟩ := hc k s hsk
        obtain ⟨g1, g2, g3, g4⟩ := HS.out s (List.mem_of_getElem? hsk)
        clear hc hsk
        obtain ⟨hr1, hr2⟩ := tmod6 s.op
        by_cases hx : s.op.tmod 6 < 0
        · have hx' : (1 : Int) + s.op.tmod 6 < 1 := by omega
          go_wp2_with fail
          go_region
          all_goals go_wp2_with (at_builtin; refine wpList_append (k + 1) (R.flatMap stc ++ stc ⟨1, s.k, s.v⟩) rfl _ _ _ _ rfl slStp rfl (HI.out.1.keep (S := fun _ => False) (by repeat (first | exact Only.refl _ _ | apply Only.alloc | apply Only.drew | (refine Only.setCell ?_ _ _ (fun h => absurd h (Nat.lt_irrefl _))))) (fun _ _ => id)) rfl (Src.row (size := 3) (cs := #[.int .i64 (1), .int .u64 (s.k : Int), .int .u64 (s.v : Int)]) (t := 43) (fr := (0, 0)) Try.underlying37 (show (((wr.alloc (.cells #[.int .i64 1, .int .u64 (s.k : Int), .int .u64 (s.v : Int)] 43)).alloc (.cells #[.int .i64 1, .int .u64 (s.k : Int), .int .u64 (s.v : Int)] 43)).drew).heap[wr.heap.size + 1]? = _ from heap_alloc_new' (wr.alloc (.cells #[.int .i64 1, .int .u64 (s.k : Int), .int .u64 (s.v : Int)] 43)) _ _ (by simp)) 1 1 rfl (by simp [Value.oneCell'])) rfl rfl (by unfold maxLen; omega) (by omega) ?_)
          all_goals
            intro oa2 oc2 w20 hG
            have HN : Hid (Own 43 3 w20 oa2 (k + 1) oc2 ((R ++ [(⟨1, s.k, s.v⟩ : Stp)]).flatMap stc) ∧ (R ++ [(⟨1, s.k, s.v⟩ : Stp)]).length = k + 1 ∧ Fine (R ++ [(⟨1, s.k, s.v⟩ : Stp)]) ∧ Same w w20 ∧ ∀ j, At oa2 j → w.heap.size ≤ j) := Lib.hid (grown (q := (⟨1, s.k, s.v⟩ : Stp)) HI.out hG ⟨by show (1 : Int) ≤ 1; omega, by show 1 ≤ (6 : Int); omega, g3, g4⟩)
            clear hG
            go_wp2_with fail
            exact ⟨⟨k + 1, oa2, oc2, _, by omega, by omega, rfl, by go_num, HN⟩, by simp [intOf]; omega⟩
        · have hx' : ¬ (1 : Int) + s.op.tmod 6 < 1 := by omega
          go_wp2_with fail
          go_region
          all_goals go_wp2_with (at_builtin; refine wpList_append (k + 1) (R.flatMap stc ++ stc ⟨1 + s.op.tmod 6, s.k, s.v⟩) rfl _ _ _ _ rfl slStp rfl (HI.out.1.keep (S := fun _ => False) (by repeat (first | exact Only.refl _ _ | apply Only.alloc | apply Only.drew)) (fun _ _ => id)) rfl (Src.row (size := 3) (cs := #[.int .i64 (1 + s.op.tmod 6), .int .u64 (s.k : Int), .int .u64 (s.v : Int)]) (t := 43) (fr := (0, 0)) Try.underlying37 (show (((wr.alloc (.cells #[.int .i64 (1 + s.op.tmod 6), .int .u64 (s.k : Int), .int .u64 (s.v : Int)] 43)).alloc (.cells #[.int .i64 (1 + s.op.tmod 6), .int .u64 (s.k : Int), .int .u64 (s.v : Int)] 43)).drew).heap[wr.heap.size + 1]? = _ from heap_alloc_new' (wr.alloc (.cells #[.int .i64 (1 + s.op.tmod 6), .int .u64 (s.k : Int), .int .u64 (s.v : Int)] 43)) _ _ (by simp)) 1 1 rfl (by simp [Value.oneCell'])) rfl rfl (by unfold maxLen; omega) (by omega) ?_)
          all_goals
            intro oa2 oc2 w20 hG
            have HN : Hid (Own 43 3 w20 oa2 (k + 1) oc2 ((R ++ [(⟨1 + s.op.tmod 6, s.k, s.v⟩ : Stp)]).flatMap stc) ∧ (R ++ [(⟨1 + s.op.tmod 6, s.k, s.v⟩ : Stp)]).length = k + 1 ∧ Fine (R ++ [(⟨1 + s.op.tmod 6, s.k, s.v⟩ : Stp)]) ∧ Same w w20 ∧ ∀ j, At oa2 j → w.heap.size ≤ j) := Lib.hid (grown (q := (⟨1 + s.op.tmod 6, s.k, s.v⟩ : Stp)) HI.out hG ⟨by show (1 : Int) ≤ 1 + s.op.tmod 6; omega, by show 1 + s.op.tmod 6 ≤ (6 : Int); omega, g3, g4⟩)
            clear hG
            go_wp2_with fail
            exact ⟨⟨k + 1, oa2, oc2, _, by omega, by omega, rfl, by go_num, HN⟩, by simp [intOf]; omega⟩
      · have hlt2' : ¬ (k : Int) < 200 := by omega
        have HW := Lib.hid (twice oa k oc R wr ⟨HI.out.1.rd, HI.out.2.1⟩ hk2)
        go_wp2_with fail
        refine HW.out.mono ?_
        rintro e w3 ⟨tb, rfl, HS3⟩
        have HI3 : Hid (Own 43 3 w3 oa k oc (R.flatMap stc) ∧ R.length = k ∧ Fine R ∧ Same w w3 ∧ ∀ j, At oa j → w.heap.size ≤ j) := Lib.hid ⟨HI.out.1.keep HS3.out (fun _ _ => id), HI.out.2.1, HI.out.2.2.1, Same.trans HI.out.2.2.2.1 HS3.out, HI.out.2.2.2.2⟩
        clear HW HI HS3
        cases tb with
        | false =>
          go_wp2_with fail
          go_ret
          exact ⟨oa, k, oc, R, rfl, Lib.hid ⟨⟨HI3.out.1.rd, HI3.out.2.1⟩, hk2, HI3.out.2.2.1, HI3.out.2.2.2.1⟩⟩
        | true =>
          go_wp2_with fail
          go_loopw [6] (fun x wr => ∃ (j : Nat) (R2 : List Stp), j ≤ k ∧ x = .int .i64 (j : Int) ∧ Hid (Own 43 3 wr oa k oc (R2.flatMap stc) ∧ R2.length = k ∧ Fine R2 ∧ Same w wr)) (fun x _ => k - (intOf x).toNat)
          case atStart => exact ⟨0, R, Nat.zero_le _, rfl, Lib.hid ⟨HI3.out.1, HI3.out.2.1, HI3.out.2.2.1, HI3.out.2.2.2.1⟩⟩
          case round =>
            obtain ⟨j, R2, hj, rfl, HJ⟩ := hrel
            by_cases hjk : j < k
            · have hjk' : (j : Int) < (k : Int) := by omega
              obtain ⟨s, hsj⟩ : ∃ s, R2[j]? = some s := ⟨R2[j]'(by rw [HJ.out.2.1]; omega), List.getElem?_eq_getElem _⟩
              obtain ⟨b, ha, hb, hc⟩ := HJ.out.1.at (by omega)
              have hbw : w.heap.size ≤ b := HI3.out.2.2.2.2 b (by rw [ha]; rfl)
              have HSET : Hid (Own 43 3 (wr.setCell ⟨b, j * 3, none⟩ (.int .i64 3)) oa k oc ((R2.set j ⟨3, s.k, s.v⟩).flatMap stc) ∧ (R2.set j ⟨3, s.k, s.v⟩).length = k ∧ Fine (R2.set j ⟨3, s.k, s.v⟩) ∧ Same w (wr.setCell ⟨b, j * 3, none⟩ (.int .i64 3))) := Lib.hid (by
                refine ⟨by rw [← flat_set R2 j s hsj]; exact HJ.out.1.set ha (j * 3) _ rfl (by omega), by rw [List.length_set]; exact HJ.out.2.1, fun q hq => ?_, HJ.out.2.2.2.setCell _ _ (fun h => absurd h (by show ¬ b < _; omega))⟩
                rcases List.mem_or_eq_of_mem_set hq with hq | rfl
                · exact HJ.out.2.2.1 q hq
                · have := HJ.out.2.2.1 s (List.mem_of_getElem? hsj)
                  exact ⟨by show (1 : Int) ≤ 3; omega, by show (3 : Int) ≤ 6; omega, this.2.2⟩)
              have c0 : wr.cell? ⟨b, j * 3, none⟩ = some (.int .i64 s.op) := by have := hc (j * 3) _ (stc_get R2 j s hsj).1; simpa using this
              have f0 : wr.frozen? ⟨b, j * 3, none⟩ = false := HJ.out.1.frozen ha (j * 3)
              clear hc hsj
              subst ha
              by_cases h5 : (4 : Int) < s.op
              · go_wp2_with fail
                go_round
                case rel => exact ⟨j + 1, _, by omega, by go_num, HSET⟩
                case measure => simp [intOf]; omega
              · go_wp2_with fail
                go_round
                case rel => exact ⟨j + 1, R2, by omega, by go_num, HJ⟩
                case measure => simp [intOf]; omega
            · obtain rfl : j = k := by omega
              go_wp2_with fail
              go_ret
              exact ⟨oa, j, oc, R2, rfl, Lib.hid ⟨⟨HJ.out.1.rd, HJ.out.2.1⟩, hk2, HJ.out.2.2.1, HJ.out.2.2.2⟩⟩
    · have hlt' : ¬ (k : Int) < (n : Int) := by omega
      have HW := Lib.hid (twice oa k oc R wr ⟨HI.out.1.rd, HI.out.2.1⟩ hk2)
      go_wp2_with fail
      refine HW.out.mono ?_
      rintro e w3 ⟨tb, rfl, HS3⟩
      have HI3 : Hid (Own 43 3 w3 oa k oc (R.flatMap stc) ∧ R.length = k ∧ Fine R ∧ Same w w3 ∧ ∀ j, At oa j → w.heap.size ≤ j) := Lib.hid ⟨HI.out.1.keep HS3.out (fun _ _ => id), HI.out.2.1, HI.out.2.2.1, Same.trans HI.out.2.2.2.1 HS3.out, HI.out.2.2.2.2⟩
      clear HW HI HS3
      cases tb with
      | false =>
        go_wp2_with fail
        go_ret
        exact ⟨oa, k, oc, R, rfl, Lib.hid ⟨⟨HI3.out.1.rd, HI3.out.2.1⟩, hk2, HI3.out.2.2.1, HI3.out.2.2.2.1⟩⟩
      | true =>
        go_wp2_with fail
        go_loopw [6] (fun x wr => ∃ (j : Nat) (R2 : List Stp), j ≤ k ∧ x = .int .i64 (j : Int) ∧ Hid (Own 43 3 wr oa k oc (R2.flatMap stc) ∧ R2.length = k ∧ Fine R2 ∧ Same w wr)) (fun x _ => k - (intOf x).toNat)
        case atStart => exact ⟨0, R, Nat.zero_le _, rfl, Lib.hid ⟨HI3.out.1, HI3.out.2.1, HI3.out.2.2.1, HI3.out.2.2.2.1⟩⟩
        case round =>
          obtain ⟨j, R2, hj, rfl, HJ⟩ := hrel
          by_cases hjk : j < k
          · have hjk' : (j : Int) < (k : Int) := by omega
            obtain ⟨s, hsj⟩ : ∃ s, R2[j]? = some s := ⟨R2[j]'(by rw [HJ.out.2.1]; omega), List.getElem?_eq_getElem _⟩
            obtain ⟨b, ha, hb, hc⟩ := HJ.out.1.at (by omega)
            have hbw : w.heap.size ≤ b := HI3.out.2.2.2.2 b (by rw [ha]; rfl)
            have HSET : Hid (Own 43 3 (wr.setCell ⟨b, j * 3, none⟩ (.int .i64 3)) oa k oc ((R2.set j ⟨3, s.k, s.v⟩).flatMap stc) ∧ (R2.set j ⟨3, s.k, s.v⟩).length = k ∧ Fine (R2.set j ⟨3, s.k, s.v⟩) ∧ Same w (wr.setCell ⟨b, j * 3, none⟩ (.int .i64 3))) := Lib.hid (by
              refine ⟨by rw [← flat_set R2 j s hsj]; exact HJ.out.1.set ha (j * 3) _ rfl (by omega), by rw [List.length_set]; exact HJ.out.2.1, fun q hq => ?_, HJ.out.2.2.2.setCell _ _ (fun h => absurd h (by show ¬ b < _; omega))⟩
              rcases List.mem_or_eq_of_mem_set hq with hq | rfl
              · exact HJ.out.2.2.1 q hq
              · have := HJ.out.2.2.1 s (List.mem_of_getElem? hsj)
                exact ⟨by show (1 : Int) ≤ 3; omega, by show (3 : Int) ≤ 6; omega, this.2.2⟩)
            have c0 : wr.cell? ⟨b, j * 3, none⟩ = some (.int .i64 s.op) := by have := hc (j * 3) _ (stc_get R2 j s hsj).1; simpa using this
            have f0 : wr.frozen? ⟨b, j * 3, none⟩ = false := HJ.out.1.frozen ha (j * 3)
            clear hc hsj
            subst ha
            by_cases h5 : (4 : Int) < s.op
            · go_wp2_with fail
              go_round
              case rel => exact ⟨j + 1, _, by omega, by go_num, HSET⟩
              case measure => simp [intOf]; omega
            · go_wp2_with fail
              go_round
              case rel => exact ⟨j + 1, R2, by omega, by go_num, HJ⟩
              case measure => simp [intOf]; omega
          · obtain rfl : j = k := by omega
            go_wp2_with fail
            go_ret
            exact ⟨oa, j, oc, R2, rfl, Lib.hid ⟨⟨HJ.out.1.rd, HJ.out.2.1⟩, hk2, HJ.out.2.2.1, HJ.out.2.2.2⟩⟩
end Go.Proofs.Ytpccodjmjgfloaa.fi

/-
  The specification's BAPut.
-/
import Derived.Test.YtacjkbljokjdkaaBaSpec
import Derived.BigRegion
import Derived.Deep.RegionLaw
namespace Go.Proofs.Ytacjkbljokjdkaa.ba
open Go.RowKit Go.Proofs.Ytacjkbljokjdkaa.base Go.Proofs.Ytacjkbljokjdkaa.heap Go.Proofs.Ytacjkbljokjdkaa.rows Go.Proofs.Ytacjkbljokjdkaa.bit Go.Proofs.Ytacjkbljokjdkaa.bs
set_option linter.unusedVariables false
/-- a list of numbers of the call's own -/
def OU (w : World) (a : Option Addr) (n cap : Nat) (l : List Nat) : Prop := Own 24 1 w a n cap (U l) ∧ l.length = n
section
variable {w w' : World} {a : Option Addr} {n cap : Nat} {l : List Nat}
theorem OU.rl (h : OU w a n cap l) : RL uv w a n cap l := ⟨h.1.rd, h.2⟩
theorem OU.still (h : OU w a n cap l) (ho : Same w w') : OU w' a n cap l := ⟨h.1.keep ho (fun _ _ => id), h.2⟩
theorem OU.nil (w : World) : OU w none 0 0 [] := ⟨Own.nil _ _ _, rfl⟩
theorem OU.bound (h : OU w a n cap l) : n ≤ cap ∧ cap ≤ 9223372036854775807 := h.1.bound
theorem OU.alt (h : OU w a n cap l) : (a = none ∧ cap = 0 ∧ n = 0) ∨ ∃ b, a = some ⟨b, 0, none⟩ ∧ b < w.heap.size := by
  rcases h.1.alt with ⟨h1, h2⟩ | ⟨b, cur, h1, h2, _⟩
  · exact .inl ⟨h1, h2, by have := h.1.le; omega⟩
  · exact .inr ⟨b, h1, lt_of_heap h2⟩
theorem U_take (l : List Nat) (k : Nat) : (U l).take k = U (l.take k) := by simp [U]
theorem U_drop (l : List Nat) (k : Nat) : (U l).drop k = U (l.drop k) := by simp [U]
theorem U_app (l m : List Nat) : U (l ++ m) = U l ++ U m := by simp [U]
/-- its first elements, its last ones, as they are appended -/
theorem OU.srcTake (h : OU w a n cap l) {m : Nat} (hm : m ≤ n) : Src Try.prog 1 23 (.slice a m cap) m (U (l.take m)) w := by
  have h2 := h.1.rd.take (k := m) (c := cap) hm (by have := h.1.le; omega) (Nat.le_refl _)
  rw [Nat.mul_one, U_take] at h2
  exact h2.src Try.underlying23
theorem OU.srcDrop {b : Nat} (h : OU w (some ⟨b, 0, none⟩) n cap l) {m : Nat} (hm : m ≤ n) : Src Try.prog 1 23 (.slice (some ⟨b, m, none⟩) (n - m) (cap - m)) (n - m) (U (l.drop m)) w := by
  have h2 := Rd.drop h.1.rd (k := m) hm
  rw [Nat.mul_one, U_drop, Nat.zero_add] at h2
  exact h2.src Try.underlying23
/-- a list of numbers is handed back -/
def PutP (l : List Nat) (a : Option Addr) (w : World) (e : Ending) (w' : World) : Prop := ∃ a' cap', e = .returned (.slice a' l.length cap') ∧ OU w' a' l.length cap' l ∧ Same w w' ∧ ∀ k, At a' k → At a k ∨ w.heap.size ≤ k

set_option maxRecDepth 100000 in
set_option maxHeartbeats 1600000 in
theorem baPut (h : OU w a n cap l) (hs : Asc l) (K : Nat) (hn : n ≤ 1000000) : Calls Try.prog 15 #[.slice a n cap, uv K] w (PutP (put l K) a w) := by
  have hbd := h.bound
  have HH := Lib.hid (baHas h.rl hs K)
  have HA : Hid (∀ wx, Same w wx → Calls Try.prog 23 #[.slice a n cap, uv K] wx (FV wx (.int .i64 (at_ l K : Nat)))) := Lib.hid (fun wx hS => baAt (h.rl.still hS) K)
  have H := Lib.hid h
  by_cases hm : K ∈ l
  · have hd : decide (K ∈ l) = true := by simp [hm]
    rw [hd] at HH
    have HP : Hid (put l K = l) := Lib.hid (by unfold put; rw [if_pos hm])
    unfold uv at *
    clear h hs hm
    go_enter Try.func15, Try.ntmps15
    go_wp2_with fail
    refine HH.out.mono ?_
    rintro e w1 ⟨rfl, hS⟩
    have HSS := Lib.hid hS
    clear hS
    go_wp2_with fail
    go_ret
    rw [HP.out]
    exact ⟨a, cap, by rw [H.out.2]; rfl, by rw [H.out.2]; exact H.out.still HSS.out, HSS.out, fun k hk => .inl hk⟩
  · have hd : decide (K ∈ l) = false := by simp [hm]
    rw [hd] at HH
    have HP : Hid (put l K = l.take (at_ l K) ++ K :: l.drop (at_ l K)) := Lib.hid (by unfold put; rw [if_neg hm])
    have hmn : at_ l K ≤ n := by rw [← h.2]; exact at_le l K
    obtain ⟨m, hmm⟩ : ∃ m, at_ l K = m := ⟨_, rfl⟩
    rw [hmm] at HP HA hmn
    clear hmm
    unfold uv at *
    have h0 : (0 : Int) ≤ (m : Int) := by omega
    have h1 : (m : Int) ≤ (n : Int) := by omega
    have h2 : (m : Int) ≤ (cap : Int) := by omega
    have HT : Hid (∀ wx, Same w wx → Src Try.prog 1 23 (.slice a m cap) m (U (l.take m)) wx) := Lib.hid (fun wx hS => (h.still hS).srcTake hmn)
    rcases h.alt with ⟨rfl, rfl, rfl⟩ | ⟨b, rfl, hb⟩
    · obtain rfl : m = 0 := by omega
      have HD : Hid (∀ wx, Same w wx → Src Try.prog 1 23 (.slice none 0 0) 0 (U (l.drop 0)) wx) := Lib.hid (fun wx hS => by
        have := (h.still hS).srcTake (m := 0) (Nat.le_refl _)
        rw [List.eq_nil_of_length_eq_zero h.2] at this ⊢
        exact this)
      clear h hs hm
      go_enter Try.func15, Try.ntmps15
      go_wp2_with fail
      refine HH.out.mono ?_
      rintro e w1 ⟨rfl, hS⟩
      have HSS := Lib.hid hS
      clear hS
      go_wp2_with fail
      refine (HA.out _ HSS.out).mono ?_
      rintro e w2 ⟨rfl, hS⟩
      have HS2 : Hid (Same w w2) := Lib.hid (Same.trans HSS.out hS)
      clear hS HSS
      go_wp2_with fail
      obtain ⟨w3, hw3⟩ : ∃ w3, w3 = w2.alloc (.cells #[] 24) := ⟨_, rfl⟩
      rw [← hw3]
      obtain ⟨a1, ha1⟩ : ∃ a1 : Option Addr, a1 = some ⟨w2.heap.size, 0, none⟩ := ⟨_, rfl⟩
      rw [← ha1]
      have HOW : Hid (Own 24 1 w3 a1 0 0 (U (l.take 0)) ∧ Same w w3 ∧ ∀ j, At a1 j → w2.heap.size ≤ j) := Lib.hid ⟨by
        rw [ha1, hw3]
        exact Own.of_block (cur := #[]) (heap_alloc_new _ _) 0 0 (Nat.le_refl _) (by simp [maxLen]) rfl (by simp), by rw [hw3]; exact Same.trans HS2.out ((Only.refl _ _).alloc _), fun j hj => by
        rw [ha1] at hj
        have : w2.heap.size = j := hj
        omega⟩
      clear hw3 ha1
      obtain ⟨m, hm0⟩ : ∃ m : Nat, m = 0 := ⟨_, rfl⟩
      have HN0 : Hid (l = []) := Lib.hid (List.eq_nil_of_length_eq_zero H.out.2)
      obtain ⟨m', hm'⟩ : ∃ m' : Nat, 0 + m = m' := ⟨_, rfl⟩
      have hbd3 := HOW.out.1.bound
      have HW4 : Hid (∀ a2 c2 w4 n2, Grew 24 1 ((w3.alloc (.cells #[.int .u64 (K : Int)] 24)).drew) w4 a1 a2 1 (0 + 1) 0 c2 n2 → Same w w4) := Lib.hid (fun a2 c2 w4 n2 hG => new_only HOW.out.2.1 (Only.trans (S := At a1) (((Only.refl _ _).alloc _).drew) hG.only (fun _ _ h => h)) (fun j hj => by have := HOW.out.2.2 j hj; have := HS2.out.size; omega))
      go_wp2_with fail
      go_region_law (first
        | (refine step_app (0 + 1) (U (l.take 0) ++ U [K]) (by rfl) _ _ _ _ (by rfl) slWord ?_ (HOW.out.1.keep (S := fun _ => False) (by with_reducible repeat (first | exact Only.refl _ _ | apply Only.alloc | apply Only.drew)) (fun _ _ => id)) ?_ (Src.row (size := 1) (cs := #[.int .u64 (K : Int)]) (t := 24) (fr := (0, 0)) Try.underlying23 (show ((w3.alloc (.cells #[.int .u64 (K : Int)] 24)).drew).heap[w3.heap.size]? = _ from heap_alloc_new' w3 _ _ rfl) 1 1 rfl (by simp [Value.oneCell'])) rfl rfl (by unfold maxLen; omega) (by omega) ?_; (go_simp); (go_simp); intro a2 c2 w4 hG; have hS4 : Same w w4 := HW4.out _ _ _ _ hG)
        | (refine step_app (0 + 1 + (0 - 0)) (U (l.take 0) ++ U [K] ++ U (l.drop 0)) (by rfl) _ _ _ _ (by rfl) slWord ?_ (hG.own.keep (S := fun _ => False) (by with_reducible repeat (first | exact Only.refl _ _ | apply Only.alloc | apply Only.drew)) (fun _ _ => id)) ?_ (HD.out _ (by with_reducible repeat (first | exact hS4 | apply Only.alloc | apply Only.drew))) rfl rfl (by unfold maxLen; omega) (by omega) ?_; (go_simp); (go_simp); intro a3 c3 w5 hG5))
      all_goals
        have HFIN : Hid (∀ a0, PutP (put l K) a0 w (.returned (.slice a3 (0 + 1 + (0 - 0)) c3)) w5) := Lib.hid (by
          intro a0
          have hlen : (put l K).length = 0 + 1 + (0 - 0) := by rw [HP.out]; first | (simp [H.out.2]; done) | (simp [H.out.2]; omega)
          have hO5 : Only (At a2) w4 w5 := by first | exact hG5.only | exact hG5.only.undrew | exact hG5.only.undrewN
          refine ⟨a3, c3, by rw [hlen], ⟨?_, rfl⟩, new_only hS4 hO5 (fun j hj => ?_), fun j hj => .inr ?_⟩
          · rw [hlen, HP.out, show l.take 0 ++ K :: l.drop 0 = l.take 0 ++ [K] ++ l.drop 0 by simp, U_app, U_app]
            exact hG5.own
          · have h8 := HS2.out.size
            have h9 := HOW.out.2.1.size
            rcases hG.fresh j hj with h | h
            · have := HOW.out.2.2 j h; omega
            · have h7 : w3.heap.size + 1 ≤ j := by simpa using h
              omega
          · have h8 := HS2.out.size
            have h9 := HOW.out.2.1.size
            have h10 := hS4.size
            rcases hG5.fresh j hj with h | h
            · rcases hG.fresh j h with h | h
              · have := HOW.out.2.2 j h; omega
              · have h7 : w3.heap.size + 1 ≤ j := by simpa using h
                omega
            · have h7 : w4.heap.size ≤ j := by simpa using h
              omega)
        clear hG hG5 hS4
        go_wp2_with fail
        go_ret
        exact HFIN.out _
    · by_cases hcap : m = cap
      · subst hcap
        have HD : Hid (∀ wx, Same w wx → Src Try.prog 1 23 (.slice (some ⟨b, 0, none⟩) 0 0) 0 (U (l.drop m)) wx) := Lib.hid (fun wx hS => by
          have e2 : l.drop m = [] := List.drop_eq_nil_of_le (by rw [h.2]; omega)
          rw [e2]
          exact Src.ofSlice _ Try.underlying23 _ 0 _ [] (by simp) (by simp) (by simp))
        clear h hs hm
        go_enter Try.func15, Try.ntmps15
        go_wp2_with fail
        refine HH.out.mono ?_
        rintro e w1 ⟨rfl, hS⟩
        have HSS := Lib.hid hS
        clear hS
        go_wp2_with fail
        refine (HA.out _ HSS.out).mono ?_
        rintro e w2 ⟨rfl, hS⟩
        have HS2 : Hid (Same w w2) := Lib.hid (Same.trans HSS.out hS)
        clear hS HSS
        go_wp2_with (at_builtin; refine wpList_append (0 + m) ([] ++ U (l.take m)) rfl _ _ _ _ rfl slWord rfl (Own.of_block (cur := #[]) (heap_alloc_new _ _) 0 0 (Nat.le_refl _) (by simp [maxLen]) rfl (by simp)) rfl (HT.out _ (Same.trans HS2.out ((Only.refl _ _).alloc _))) rfl rfl (by unfold maxLen; omega) (by omega) ?_)
        intro a1 c1 w3 hG
        have HOW : Hid (Own 24 1 w3 a1 m c1 (U (l.take m)) ∧ Same w w3 ∧ ∀ j, At a1 j → w2.heap.size ≤ j) := Lib.hid ⟨by simpa using hG.own, Same.trans HS2.out (new_only ((Only.refl _ _).alloc _) hG.only (fun j hj => by have : w2.heap.size = j := hj; omega)), fun j hj => by
          rcases hG.fresh j hj with h | h
          · have : w2.heap.size = j := h
            omega
          · simp at h; omega⟩
        clear hG
        obtain ⟨m', hm'⟩ : ∃ m' : Nat, 0 + m = m' := ⟨_, rfl⟩
        have hbd3 := HOW.out.1.bound
        have HW4 : Hid (∀ a2 c2 w4 n2, Grew 24 1 ((w3.alloc (.cells #[.int .u64 (K : Int)] 24)).drew) w4 a1 a2 1 (m + 1) c1 c2 n2 → Same w w4) := Lib.hid (fun a2 c2 w4 n2 hG => new_only HOW.out.2.1 (Only.trans (S := At a1) (((Only.refl _ _).alloc _).drew) hG.only (fun _ _ h => h)) (fun j hj => by have := HOW.out.2.2 j hj; have := HS2.out.size; omega))
        go_wp2_with fail
        go_region_law (first
          | (refine step_app (m + 1) (U (l.take m) ++ U [K]) (by rfl) _ _ _ _ (by rfl) slWord ?_ (HOW.out.1.keep (S := fun _ => False) (by with_reducible repeat (first | exact Only.refl _ _ | apply Only.alloc | apply Only.drew)) (fun _ _ => id)) ?_ (Src.row (size := 1) (cs := #[.int .u64 (K : Int)]) (t := 24) (fr := (0, 0)) Try.underlying23 (show ((w3.alloc (.cells #[.int .u64 (K : Int)] 24)).drew).heap[w3.heap.size]? = _ from heap_alloc_new' w3 _ _ rfl) 1 1 rfl (by simp [Value.oneCell'])) rfl rfl (by unfold maxLen; omega) (by omega) ?_; (go_simp); (go_simp); intro a2 c2 w4 hG; have hS4 : Same w w4 := HW4.out _ _ _ _ hG)
          | (refine step_app (m + 1 + (0)) (U (l.take m) ++ U [K] ++ U (l.drop m)) (by rfl) _ _ _ _ (by rfl) slWord ?_ (hG.own.keep (S := fun _ => False) (by with_reducible repeat (first | exact Only.refl _ _ | apply Only.alloc | apply Only.drew)) (fun _ _ => id)) ?_ (HD.out _ (by with_reducible repeat (first | exact hS4 | apply Only.alloc | apply Only.drew))) rfl rfl (by unfold maxLen; omega) (by omega) ?_; (go_simp); (go_simp); intro a3 c3 w5 hG5))
        all_goals
          have HFIN : Hid (∀ a0, PutP (put l K) a0 w (.returned (.slice a3 (m + 1 + (0)) c3)) w5) := Lib.hid (by
            intro a0
            have hlen : (put l K).length = m + 1 + (0) := by rw [HP.out]; first | (simp [H.out.2]; done) | (simp [H.out.2]; omega)
            have hO5 : Only (At a2) w4 w5 := by first | exact hG5.only | exact hG5.only.undrew | exact hG5.only.undrewN
            refine ⟨a3, c3, by rw [hlen], ⟨?_, rfl⟩, new_only hS4 hO5 (fun j hj => ?_), fun j hj => .inr ?_⟩
            · rw [hlen, HP.out, show l.take m ++ K :: l.drop m = l.take m ++ [K] ++ l.drop m by simp, U_app, U_app]
              exact hG5.own
            · have h8 := HS2.out.size
              have h9 := HOW.out.2.1.size
              rcases hG.fresh j hj with h | h
              · have := HOW.out.2.2 j h; omega
              · have h7 : w3.heap.size + 1 ≤ j := by simpa using h
                omega
            · have h8 := HS2.out.size
              have h9 := HOW.out.2.1.size
              have h10 := hS4.size
              rcases hG5.fresh j hj with h | h
              · rcases hG.fresh j h with h | h
                · have := HOW.out.2.2 j h; omega
                · have h7 : w3.heap.size + 1 ≤ j := by simpa using h
                  omega
              · have h7 : w4.heap.size ≤ j := by simpa using h
                omega)
          clear hG hG5 hS4
          go_wp2_with fail
          go_ret
          exact HFIN.out _
      · have HD : Hid (∀ wx, Same w wx → Src Try.prog 1 23 (.slice (some ⟨b, m, none⟩) (n - m) (cap - m)) (n - m) (U (l.drop m)) wx) := Lib.hid (fun wx hS => (h.still hS).srcDrop hmn)
        have hcap' : ¬ (cap : Int) = (m : Int) := by omega
        have hcap2 : ¬ cap = m := by omega
        clear h hs hm
        go_enter Try.func15, Try.ntmps15
        go_wp2_with fail
        refine HH.out.mono ?_
        rintro e w1 ⟨rfl, hS⟩
        have HSS := Lib.hid hS
        clear hS
        go_wp2_with fail
        refine (HA.out _ HSS.out).mono ?_
        rintro e w2 ⟨rfl, hS⟩
        have HS2 : Hid (Same w w2) := Lib.hid (Same.trans HSS.out hS)
        clear hS HSS
        go_wp2_with (at_builtin; refine wpList_append (0 + m) ([] ++ U (l.take m)) rfl _ _ _ _ rfl slWord rfl (Own.of_block (cur := #[]) (heap_alloc_new _ _) 0 0 (Nat.le_refl _) (by simp [maxLen]) rfl (by simp)) rfl (HT.out _ (Same.trans HS2.out ((Only.refl _ _).alloc _))) rfl rfl (by unfold maxLen; omega) (by omega) ?_)
        intro a1 c1 w3 hG
        have HOW : Hid (Own 24 1 w3 a1 m c1 (U (l.take m)) ∧ Same w w3 ∧ ∀ j, At a1 j → w2.heap.size ≤ j) := Lib.hid ⟨by simpa using hG.own, Same.trans HS2.out (new_only ((Only.refl _ _).alloc _) hG.only (fun j hj => by have : w2.heap.size = j := hj; omega)), fun j hj => by
          rcases hG.fresh j hj with h | h
          · have : w2.heap.size = j := h
            omega
          · simp at h; omega⟩
        clear hG
        obtain ⟨m', hm'⟩ : ∃ m' : Nat, 0 + m = m' := ⟨_, rfl⟩
        have hbd3 := HOW.out.1.bound
        have HW4 : Hid (∀ a2 c2 w4 n2, Grew 24 1 ((w3.alloc (.cells #[.int .u64 (K : Int)] 24)).drew) w4 a1 a2 1 (m + 1) c1 c2 n2 → Same w w4) := Lib.hid (fun a2 c2 w4 n2 hG => new_only HOW.out.2.1 (Only.trans (S := At a1) (((Only.refl _ _).alloc _).drew) hG.only (fun _ _ h => h)) (fun j hj => by have := HOW.out.2.2 j hj; have := HS2.out.size; omega))
        go_wp2_with fail
        go_region_law (first
          | (refine step_app (m + 1) (U (l.take m) ++ U [K]) (by rfl) _ _ _ _ (by rfl) slWord ?_ (HOW.out.1.keep (S := fun _ => False) (by with_reducible repeat (first | exact Only.refl _ _ | apply Only.alloc | apply Only.drew)) (fun _ _ => id)) ?_ (Src.row (size := 1) (cs := #[.int .u64 (K : Int)]) (t := 24) (fr := (0, 0)) Try.underlying23 (show ((w3.alloc (.cells #[.int .u64 (K : Int)] 24)).drew).heap[w3.heap.size]? = _ from heap_alloc_new' w3 _ _ rfl) 1 1 rfl (by simp [Value.oneCell'])) rfl rfl (by unfold maxLen; omega) (by omega) ?_; (go_simp); (go_simp); intro a2 c2 w4 hG; have hS4 : Same w w4 := HW4.out _ _ _ _ hG)
          | (refine step_app (m + 1 + (n - m)) (U (l.take m) ++ U [K] ++ U (l.drop m)) (by rfl) _ _ _ _ (by rfl) slWord ?_ (hG.own.keep (S := fun _ => False) (by with_reducible repeat (first | exact Only.refl _ _ | apply Only.alloc | apply Only.drew)) (fun _ _ => id)) ?_ (HD.out _ (by with_reducible repeat (first | exact hS4 | apply Only.alloc | apply Only.drew))) rfl rfl (by unfold maxLen; omega) (by omega) ?_; (go_simp); (go_simp); intro a3 c3 w5 hG5))
        all_goals
          have HFIN : Hid (∀ a0, PutP (put l K) a0 w (.returned (.slice a3 (m + 1 + (n - m)) c3)) w5) := Lib.hid (by
            intro a0
            have hlen : (put l K).length = m + 1 + (n - m) := by rw [HP.out]; first | (simp [H.out.2]; done) | (simp [H.out.2]; omega)
            have hO5 : Only (At a2) w4 w5 := by first | exact hG5.only | exact hG5.only.undrew | exact hG5.only.undrewN
            refine ⟨a3, c3, by rw [hlen], ⟨?_, rfl⟩, new_only hS4 hO5 (fun j hj => ?_), fun j hj => .inr ?_⟩
            · rw [hlen, HP.out, show l.take m ++ K :: l.drop m = l.take m ++ [K] ++ l.drop m by simp, U_app, U_app]
              exact hG5.own
            · have h8 := HS2.out.size
              have h9 := HOW.out.2.1.size
              rcases hG.fresh j hj with h | h
              · have := HOW.out.2.2 j h; omega
              · have h7 : w3.heap.size + 1 ≤ j := by simpa using h
                omega
            · have h8 := HS2.out.size
              have h9 := HOW.out.2.1.size
              have h10 := hS4.size
              rcases hG5.fresh j hj with h | h
              · rcases hG.fresh j h with h | h
                · have := HOW.out.2.2 j h; omega
                · have h7 : w3.heap.size + 1 ≤ j := by simpa using h
                  omega
              · have h7 : w4.heap.size ≤ j := by simpa using h
                omega)
          clear hG hG5 hS4
          go_wp2_with fail
          go_ret
          exact HFIN.out _
end
end Go.Proofs.Ytacjkbljokjdkaa.ba

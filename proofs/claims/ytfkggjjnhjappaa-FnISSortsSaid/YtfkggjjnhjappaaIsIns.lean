/-
  Slices of numbers: Search, Insert; isSorted of the statements.
-/
import Derived.Test.YtfkggjjnhjappaaIsBase
import Derived.Test.YtfkggjjnhjappaaSrt
import Derived.StillTailTactics
namespace Go.Proofs.Ytfkggjjnhjappaa.isl
open Go.RowKit Go.Proofs.Ytfkggjjnhjappaa.base Go.Proofs.Ytfkggjjnhjappaa.heap Go.Proofs.Ytfkggjjnhjappaa.srt
set_option linter.unusedVariables false

/-- the place of a number in an ascending list -/
def Place (l : List Int) (n : Nat) (x : Int) (p : Nat) : Prop := p ≤ n ∧ (∀ k, k < p → l.getD k 0 < x) ∧ (∀ k, p ≤ k → k < n → x ≤ l.getD k 0)
def Found (l : List Int) (n : Nat) (x : Int) (w : World) (e : Ending) (w' : World) : Prop := ∃ p : Nat, Place l n x p ∧ e = .returned (.int .i64 (p : Int)) ∧ Only (fun _ => False) w w'

set_option maxHeartbeats 400000 in
theorem search1 (i n cap ba bx b off : Nat) (x y : Int) (w : World) (ca : w.cell? ⟨ba, 0, none⟩ = some (.slice (some ⟨b, off, none⟩) n cap)) (cx : w.cell? ⟨bx, 0, none⟩ = some (.int .i64 x)) (hi : i < n)
    (cy : w.cell? ⟨b, off + i, none⟩ = some (.int .i64 y)) :
    Calls Try.prog 54 #[.int .i64 (i : Int), .pointer (some ⟨ba, 0, none⟩), .pointer (some ⟨bx, 0, none⟩)] w fun e w' => e = .returned (.bool (decide (x ≤ y))) ∧ ∃ m, w' = w.drewN m := by
  have hi' : (i : Int) < (n : Int) := by omega
  go_enter Try.func54, Try.ntmps54
  go_wp2
  go_quiet (fail)
  go_wp2
  go_ret
  exact ⟨rfl, _, rfl⟩

set_option maxHeartbeats 800000 in
theorem sortSearch (l : List Int) (n : Nat) (x : Int) (ba bx : Nat) (w : World) (hs : Sorted l) (hl : l.length = n) (hn : n ≤ 1048576)
    (hf : ∀ q i, i < n → Calls Try.prog 54 #[.int .i64 (i : Int), .pointer (some ⟨ba, 0, none⟩), .pointer (some ⟨bx, 0, none⟩)] (w.drewN q) fun e w' => e = .returned (.bool (decide (x ≤ l.getD i 0))) ∧ ∃ m, w' = (w.drewN q).drewN m) :
    Calls Try.prog 53 #[.int .i64 (n : Int), .func (.func 54) #[] #[.pointer (some ⟨ba, 0, none⟩), .pointer (some ⟨bx, 0, none⟩)]] w (Found l n x w) := by
  have HF := Lib.hid hf
  have HM : Hid (∀ i j, i ≤ j → j < n → l.getD i 0 ≤ l.getD j 0) := Lib.hid (fun i j hij hj => sorted_le hs hij (by omega))
  clear hf hs hl
  go_enter Try.func53, Try.ntmps53
  go_wp2
  go_loopw [5, 6] (fun s5 s6 wr => ∃ lo hi q : Nat, s5 = .int .i64 (lo : Int) ∧ s6 = .int .i64 (hi : Int) ∧ lo ≤ hi ∧ hi ≤ n ∧ wr = w.drewN q ∧ Hid ((∀ k, k < lo → l.getD k 0 < x) ∧ (∀ k, hi ≤ k → k < n → x ≤ l.getD k 0))) (fun s5 s6 _ => (intOf s6).toNat - (intOf s5).toNat)
  case atStart => exact ⟨0, n, 0, rfl, rfl, Nat.zero_le _, Nat.le_refl _, rfl, Lib.hid ⟨fun k hk => by omega, fun k h1 h2 => by omega⟩⟩
  case round =>
    obtain ⟨lo, hi, q, rfl, rfl, hlh, hin, rfl, I⟩ := hrel
    by_cases hlt : lo < hi
    · have hlt' : (lo : Int) < (hi : Int) := by omega
      have hc := HF.out q ((lo + hi) / 2) (by omega)
      rw [show (((lo + hi) / 2 : Nat) : Int) = ((lo : Int) + (hi : Int)) / 2 by omega] at hc
      by_cases hp : x ≤ l.getD ((lo + hi) / 2) 0
      · rw [decide_eq_true hp] at hc
        have HP := Lib.hid hp
        have HC := Lib.hid hc
        clear hp hc
        go_wp2_with (go_at_call 54; refine HC.out.mono ?_; rintro e w' ⟨rfl, m, rfl⟩)
        go_roundw
        case rel => exact ⟨lo, (lo + hi) / 2, q + m, rfl, by rw [show ((lo : Int) + (hi : Int)) / 2 = (((lo + hi) / 2 : Nat) : Int) by omega], by omega, by omega, by simp, Lib.hid ⟨I.out.1, fun k h1 h2 => Int.le_trans HP.out (HM.out _ _ h1 h2)⟩⟩
        case measure => simp [intOf]; omega
      · rw [decide_eq_false hp] at hc
        have HP := Lib.hid hp
        have HC := Lib.hid hc
        clear hp hc
        go_wp2_with (go_at_call 54; refine HC.out.mono ?_; rintro e w' ⟨rfl, m, rfl⟩)
        go_roundw
        case rel => exact ⟨(lo + hi) / 2 + 1, hi, q + m, by rw [show ((lo : Int) + (hi : Int)) / 2 + 1 = (((lo + hi) / 2 + 1 : Nat) : Int) by omega], rfl, by omega, by omega, by simp, Lib.hid ⟨fun k hk => by
          have h1 := HM.out k ((lo + hi) / 2) (by omega) (by omega)
          have h2 := HP.out
          omega, I.out.2⟩⟩
        case measure => simp [intOf]; omega
    · have hge : ¬ (lo : Int) < (hi : Int) := by omega
      obtain rfl : lo = hi := by omega
      have HFIN : Hid (Found l n x w (.returned (.int .i64 (lo : Int))) (w.drewN q)) := Lib.hid ⟨lo, ⟨hin, I.out.1, I.out.2⟩, rfl, (Only.refl _ w).drewN q⟩
      clear I HM HF
      go_wp2
      go_ret
      exact HFIN.out

set_option maxHeartbeats 800000 in
theorem search (a : Option Addr) (n cap : Nat) (l : List Int) (x : Int) (w : World) (h : Rd 1 w a n cap (I l)) (hs : Sorted l) (hn : n ≤ 1048576) :
    Calls Try.prog 45 #[.slice a n cap, .int .i64 x] w (Found l n x w) := by
  have hl : l.length = n := by simpa [I] using h.len
  have HS : Hid (∀ W, W = (w.alloc (.cells #[.slice a n cap] 53)).alloc (.cells #[.int .i64 x] 2) → Calls Try.prog 53 #[.int .i64 (n : Int), .func (.func 54) #[] #[.pointer (some ⟨w.heap.size, 0, none⟩), .pointer (some ⟨w.heap.size + 1, 0, none⟩)]] W (Found l n x w)) := Lib.hid (fun W hW => by
    have hO : Only (fun _ => False) w W := by rw [hW]; exact ((Only.refl _ w).alloc _).alloc _
    have h1 : W.heap[w.heap.size]? = some (.cells #[.slice a n cap] 53 (0, 0)) := by rw [hW, Below.heap_alloc _ _ _ (by simp)]; exact heap_alloc_new _ _
    have h2 : W.heap[w.heap.size + 1]? = some (.cells #[.int .i64 x] 2 (0, 0)) := by rw [hW]; exact heap_alloc_new' _ _ _ (by simp)
    refine (sortSearch l n x w.heap.size (w.heap.size + 1) W hs hl hn (fun q i hi => ?_)).mono (fun e w' ⟨p, hp, he, hO'⟩ => ⟨p, hp, he, hO.trans hO' (fun _ _ f => f)⟩)
    obtain ⟨b, off, rfl, hb, hc⟩ := Rd.int h (by omega)
    exact search1 i n cap _ _ b off x _ _ (block_cell (w := W) h1 rfl) (block_cell (w := W) h2 rfl) hi ((hO.cell (p := ⟨b, off + i, none⟩) hb id).trans (hc i hi)))
  clear h hs hl
  go_enter Try.func45, Try.ntmps45
  go_wp2_with fail
  refine (HS.out _ (by rfl)).mono ?_
  rintro e w' ⟨p, hp, rfl, hO⟩
  have HFIN : Hid (Found l n x w (.returned (.int .i64 (p : Int))) w') := Lib.hid ⟨p, hp, rfl, hO⟩
  clear hp hO HS
  go_wp2_with fail
  go_ret
  exact HFIN.out

/-- a number put in, unless it is there -/
def ins (l : List Int) (p : Nat) (x : Int) : List Int := if p < l.length ∧ l.getD p 0 = x then l else l.take p ++ x :: l.drop p
/-- what Insert hands back -/
def Inserted (l : List Int) (n : Nat) (x : Int) (w : World) (e : Ending) (w' : World) : Prop :=
  ∃ p a' n' cap', Place l n x p ∧ e = .returned (.slice a' n' cap') ∧ Own 2 1 w' a' n' cap' (I (ins l p x)) ∧ Only (fun _ => False) w w'

theorem I_app (l l' : List Int) : I (l ++ l') = I l ++ I l' := by simp [I]
theorem I_len (l : List Int) : (I l).length = l.length := by simp [I]

/-- what stands in a row behind the exchange of its end -/
theorem put_in (l : List Int) (p n : Nat) (x : Int) (hp : p < n) (hl : l.length = n) : ((l ++ [0]).take (p + 1) ++ ((l ++ [0]).drop p).take (n - p)).set p x = l.take p ++ x :: l.drop p := by
  have e1 : (l ++ [0]).take (p + 1) = l.take (p + 1) := List.take_append_of_le_length (by omega)
  have e2 : (l ++ [0]).drop p = l.drop p ++ [0] := List.drop_append_of_le_length (by omega)
  have e3 : (l.drop p ++ [0]).take (n - p) = l.drop p := by
    rw [List.take_append_of_le_length (by rw [List.length_drop]; omega), List.take_of_length_le (by rw [List.length_drop]; omega)]
  have e4 : l.take (p + 1) = l.take p ++ [l[p]'(by omega)] := by rw [List.take_succ_eq_append_getElem (by omega)]
  rw [e1, e2, e3, e4, List.append_assoc, List.set_append_right _ _ (by rw [List.length_take]; omega), List.length_take, Nat.min_eq_left (by omega), Nat.sub_self]
  rfl

theorem putY_len (l : List Int) (p n : Nat) (hp : p < n) (hl : l.length = n) : ((l ++ [0]).take (p + 1) ++ ((l ++ [0]).drop p).take (n - p)).length = n + 1 := by
  rw [List.length_append, List.length_take, List.length_take, List.length_drop, List.length_append, hl]; simp; omega
theorem row_eq (cur : Array Value) (l : List Int) (p n : Nat) (hp : p < n) (hl : l.length = n) (ht : cur.toList.take (n + 1) = I (l ++ [0])) :
    cur.toList.take (p + 1) ++ ((I (l ++ [0])).drop p).take (n - p) = I ((l ++ [0]).take (p + 1) ++ ((l ++ [0]).drop p).take (n - p)) := by
  have e : cur.toList.take (p + 1) = (I (l ++ [0])).take (p + 1) := by rw [← ht, List.take_take, Nat.min_eq_left (by omega)]
  rw [e, I_app]
  unfold I
  rw [List.map_append, List.map_take, List.map_take, List.map_drop, List.map_append]

set_option maxRecDepth 100000 in
set_option maxHeartbeats 1600000 in
theorem insert (a : Option Addr) (n cap : Nat) (l : List Int) (x : Int) (w0 w : World) (h : Own 2 1 w a n cap (I l)) (hw0 : Only (fun _ => False) w0 w) (hfr : ∀ k, At a k → w0.heap.size ≤ k) (hs : Sorted l) (hn : n ≤ 1000) :
    Calls Try.prog 21 #[.slice a n cap, .int .i64 x] w (Inserted l n x w0) := by
  have hl : l.length = n := by simpa [I] using h.len
  have H := Lib.hid h
  have HS := Lib.hid (search a n cap l x w h.rd hs (by omega))
  have HW0 := Lib.hid hw0
  have HFR := Lib.hid hfr
  clear h hs hw0 hfr
  have HL := Lib.hid hl
  go_enter Try.func21, Try.ntmps21
  go_wp2_with fail
  refine HS.out.mono ?_
  rintro e w1 ⟨p, hp, rfl, hO⟩
  have hpn := hp.1
  have HP := Lib.hid hp
  have HO := Lib.hid hO
  clear hp hO HS
  have HOW := Lib.hid (H.out.keep HO.out (fun _ _ => id))
  by_cases hpe : p = n
  · subst hpe
    have e1 : ((p : Int) == (p : Int)) = true := by simp
    go_wp2_with (at_builtin; refine wpList_append (p + 1) (I (l ++ [x])) rfl _ _ _ _ rfl slNamed rfl (HOW.out.keep (S := fun _ => False) ((Only.refl _ _).alloc _) (fun _ _ => id)) rfl (Src.row (cs := #[.int .i64 x]) (t := 2) (fr := (0, 0)) Try.underlying53 (heap_alloc_new' _ _ _ (by simp)) 1 1 rfl (by simp [Value.oneCell'])) rfl (by rw [I_app]; rfl) (by unfold maxLen; omega) (by omega) ?_)
    intro a' cap' w2 hG
    have HFIN : Hid (Inserted l p x w0 (.returned (.slice a' (p + 1) cap')) w2) := Lib.hid (by
      refine ⟨p, a', _, cap', HP.out, rfl, ?_, (HW0.out.trans HO.out (fun _ _ f => f)).trans (((Only.refl (At a) w1).alloc _).trans hG.only (fun _ _ h => h)) (fun k hk h => ?_)⟩
      · unfold ins
        have h1 : ¬ (p < l.length ∧ l.getD p 0 = x) := by rw [HL.out]; omega
        rw [if_neg h1, List.take_of_length_le (by rw [HL.out]; omega), List.drop_of_length_le (by rw [HL.out]; omega)]
        exact hG.own
      · have := HFR.out k h; omega)
    clear hG
    go_wp2_with fail
    go_ret
    exact HFIN.out
  · have hpl : p < n := by omega
    have e1 : ((p : Int) == (n : Int)) = false := by rw [beq_eq_false_iff_ne]; omega
    have hpl' : (p : Int) < (n : Int) := by omega
    obtain ⟨b, rfl, hb, hcs⟩ := HOW.out.at (by omega)
    have cp : w1.cell? ⟨b, p, none⟩ = some (.int .i64 (l.getD p 0)) := by
      have := hcs p _ (I_get l p (by omega))
      simpa using this
    clear hcs
    by_cases hx : l.getD p 0 = x
    · have HFIN : Hid (Inserted l n x w0 (.returned (.slice (some ⟨b, 0, none⟩) n cap)) w1) := Lib.hid (by
        refine ⟨p, _, _, cap, HP.out, rfl, ?_, HW0.out.trans HO.out (fun _ _ f => f)⟩
        unfold ins
        rw [if_pos ⟨by omega, hx⟩]
        exact HOW.out)
      generalize l.getD p 0 = y at *
      subst hx
      have e2 : (y == y) = true := by simp
      go_wp2_with fail
      go_ret
      exact HFIN.out
    · have e2 : (l.getD p 0 == x) = false := by rw [beq_eq_false_iff_ne]; exact hx
      have HX := Lib.hid hx
      clear hx
      generalize hy : l.getD p 0 = y at *
      have HY := Lib.hid hy
      clear hy
      go_wp2_with (at_builtin; refine wpList_append (n + 1) (I (l ++ [0])) rfl _ _ _ _ rfl slNamed rfl (HOW.out.keep (S := fun _ => False) ((Only.refl _ _).alloc _) (fun _ _ => id)) rfl (Src.row (cs := #[.int .i64 0]) (t := 2) (fr := (0, 0)) Try.underlying53 (heap_alloc_new' _ _ _ (by simp)) 1 1 rfl (by simp [Value.oneCell'])) rfl (by rw [I_app]; rfl) (by unfold maxLen; omega) (by omega) ?_)
      intro a' cap' w2 hG
      obtain ⟨b2, rfl, hb2, hcs2⟩ := hG.own.at (by omega)
      obtain ⟨cur, hcur, hsz, htk⟩ : ∃ cur, w2.heap[b2]? = some (.cells cur 2 (0, 0)) ∧ cur.size = cap' ∧ cur.toList.take (n + 1) = I (l ++ [0]) := by
        rcases hG.own.alt with ⟨hc, _⟩ | ⟨b', cur, hb', hb, hs, ht⟩
        · cases hc
        · cases hb'
          exact ⟨cur, hb, by simpa using hs, by simpa using ht⟩
      have hbd := hG.own.bound
      have HRS : Hid (Rd 1 w2 (some ⟨b2, p, none⟩) (n + 1 - p) (cap' - p) ((I (l ++ [0])).drop p)) := Lib.hid (by
        refine ⟨by rw [List.length_drop, hG.own.len]; omega, by omega, by unfold maxLen; omega, fun u hu => hG.own.one u (List.mem_of_mem_drop hu), fun _ => ⟨b2, p, rfl, hb2, ?_⟩, fun h => by cases h⟩
        have := hcs2.drop p
        rwa [Nat.zero_add] at this)
      have HG := Lib.hid hG
      have HC := Lib.hid hcur
      have HSZ := Lib.hid hsz
      have HTK := Lib.hid htk
      have ht1 : ((p : Int) + 1).toNat = p + 1 := by omega
      have ht2 : (0 : Int) ≤ (p : Int) + 1 := by omega
      have ht3 : (p : Int) + 1 ≤ ((n + 1 : Nat) : Int) := by omega
      have ht4 : (p : Int) ≤ ((n + 1 : Nat) : Int) := by omega
      have ht7 : (p : Int) ≤ (n : Int) + 1 := by omega
      have ht8 : p ≤ n + 1 := by omega
      have ht9 : (n : Int) + 1 ≤ (cap' : Int) := by omega
      have ht5 : ¬ cap' = p + 1 := by omega
      have ht6 : ¬ cap' = p := by omega
      have hwr : IntKind.i64.wrap ((p : Int) + 1) = (p : Int) + 1 := by rw [IntKind.wrap_i64]; omega
      clear hG hcs2 hcur hsz htk
      go_wp2_with fail
      refine wp_region_still_tail 7 (by kernel_rfl) (by kernel_rfl) ?_
      simp only [List.take_succ_cons, List.take_zero, List.drop_succ_cons, List.drop_zero]
      repeat still_step
      refine wpStill_nil ?_
      go_wp2_with (refine wpList_copy (n - p) rfl _ _ _ _ rfl slNamed rfl HC.out rfl HRS.out.drew (by omega) (by have := HSZ.out; omega) ?_)
      intro w3 hb3 hO3
      have hrow := row_eq cur l p n hpl HL.out HTK.out
      rw [← List.append_assoc, hrow] at hb3
      have HROW := Lib.hid hrow
      clear hrow
      have f3 : w3.frozen? ⟨b2, p, none⟩ = false := block_free hb3
      have c3 : ∃ v, w3.cell? ⟨b2, p, none⟩ = some v := by
        refine ⟨_, block_cell hb3 (by rw [List.getElem?_toArray, List.getElem?_append_left (by rw [I_len, putY_len _ _ _ hpl HL.out]; omega), List.getElem?_eq_getElem (by rw [I_len, putY_len _ _ _ hpl HL.out]; omega)])⟩
      obtain ⟨v3, c3⟩ := c3
      have HFIN : Hid (Inserted l n x w0 (.returned (.slice (some ⟨b2, 0, none⟩) (n + 1) cap')) (w3.setCell ⟨b2, p, none⟩ (.int .i64 x))) := Lib.hid (by
        have hnew : w0.heap.size ≤ b2 := by
          rcases HG.out.fresh b2 rfl with h | h
          · exact HFR.out _ h
          · have h1 := HW0.out.size
            have h2 := HO.out.size
            simp at h
            omega
        have hO2 : Only (fun _ => False) w0 w2 := (HW0.out.trans HO.out (fun _ _ f => f)).trans (((Only.refl (At (some ⟨b, 0, none⟩)) w1).alloc _).trans HG.out.only (fun _ _ h => h)) (fun k hk h => by have := HFR.out k h; omega)
        refine ⟨p, _, _, cap', HP.out, rfl, ?_, (hO2.trans (w' := w2) (hO3.undrew) (fun k hk h => by omega)).setCell _ _ (fun h => by simp at h; omega)⟩
        have hB := setCell_heap hb3 p (.int .i64 x)
        have e : ((I ((l ++ [0]).take (p + 1) ++ ((l ++ [0]).drop p).take (n - p)) ++ cur.toList.drop (p + 1 + (n - p))).toArray.setIfInBounds p (.int .i64 x)).toList.take ((n + 1) * 1) = I (ins l p x) := by
          rw [Array.toList_setIfInBounds, List.set_append_left _ _ (by rw [I_len, putY_len _ _ _ hpl HL.out]; omega), List.take_append_of_le_length (by rw [List.length_set, I_len, putY_len _ _ _ hpl HL.out]; omega), List.take_of_length_le (by rw [List.length_set, I_len, putY_len _ _ _ hpl HL.out]; omega)]
          unfold ins
          rw [if_neg (fun h => HX.out (HY.out.symm.trans h.2)), ← put_in l p n x hpl HL.out]
          unfold I
          rw [List.map_set]
        have h1 := Own.of_block (size := 1) hB (n + 1) cap' hbd.1 (by unfold maxLen; omega) (by
          rw [Array.size_setIfInBounds, List.size_toArray, List.length_append, I_len, putY_len _ _ _ hpl HL.out, List.length_drop, Array.length_toList, HSZ.out]; omega) (by rw [e]; exact I_one _)
        rw [e] at h1
        exact h1)
      clear hb3 hO3
      go_wp2_with fail
      go_ret
      exact HFIN.out

theorem place_sorted {l : List Int} {n : Nat} {x : Int} {p : Nat} (hl : l.length = n) (hs : Sorted l) (h : Place l n x p) :
    (x ∈ l → ins l p x = l) ∧ (x ∉ l → ins l p x = isort (l ++ [x])) := by
  obtain ⟨hp, h1, h2⟩ := h
  constructor
  · intro hx
    unfold ins
    rw [if_pos]
    obtain ⟨k, hk, rfl⟩ := List.mem_iff_getElem.1 hx
    have hg : l.getD k 0 = l[k] := by simp [hk]
    have hkp : p ≤ k := by
      refine Nat.le_of_not_lt (fun h => ?_)
      have := h1 k h
      omega
    have h3 := h2 p (Nat.le_refl _) (by omega)
    have h4 := sorted_le hs hkp hk
    exact ⟨by omega, by omega⟩
  · intro hx
    unfold ins
    rw [if_neg]
    · exact insert_sorted hs h1 (fun k hk hkl => h2 k hk (by omega)) (by omega)
    · rintro ⟨h3, h4⟩
      apply hx
      rw [← h4, show l.getD p 0 = l[p] from by simp [h3]]
      exact List.getElem_mem _

set_option maxHeartbeats 400000 in
theorem isInsert (a : Option Addr) (n cap : Nat) (l : List Int) (x : Int) (w : World) (h : Rd 1 w a n cap (I l)) (hs : Sorted l) (hn : n ≤ 1000) :
    Calls Try.prog 8 #[.slice a n cap, .int .i64 x] w (Inserted l n x w) := by
  have H := Lib.hid h
  have HSo := Lib.hid hs
  clear h hs
  go_enter Try.func8, Try.ntmps8
  go_wp2_with fail
  refine (ints a n cap _ _ H.out (by omega)).mono ?_
  rintro e w1 ⟨a1, cap1, rfl, ho, hO, hf⟩
  have HI := Lib.hid (insert a1 n cap1 l x w w1 ho hO hf HSo.out hn)
  clear ho hO hf
  go_wp2_with fail
  refine HI.out.mono ?_
  intro e w2 hI
  obtain ⟨p, a', n', cap', hp, rfl, ho, hO⟩ := hI
  have HFIN : Hid (Inserted l n x w (.returned (.slice a' n' cap')) w2) := Lib.hid ⟨p, a', n', cap', hp, rfl, ho, hO⟩
  clear hp ho hO
  go_wp2_with fail
  go_ret
  exact HFIN.out

/-- slices.Equal, slices.Contains, slices.Index at int64 -/
theorem equal_yes (a a' : Option Addr) (n n' cap cap' : Nat) (l : List Int) (w : World) (h : Rd 1 w a n cap (I l)) (h' : Rd 1 w a' n' cap' (I l)) (hn : n ≤ 1048576) :
    Calls Try.prog 10 #[.slice a n cap, .slice a' n' cap'] w fun e w' => e = .returned (.bool true) ∧ ∃ m, w' = w.drewN m := by
  have hl : l.length = n := by simpa [I] using h.len
  have hl' : l.length = n' := by simpa [I] using h'.len
  obtain rfl : n = n' := by omega
  have hne : (!((n : Int) == (n : Int))) = false := by simp
  have H := Lib.hid h
  have H' := Lib.hid h'
  clear h h' hl hl'
  go_enter Try.func10, Try.ntmps10
  go_wp2
  go_loopw [13] (fun i wr => ∃ (k q : Nat), k ≤ n ∧ i = .int .i64 (k : Int) ∧ wr = w.drewN q) (fun i _ => n - (intOf i).toNat)
  case atStart => exact ⟨0, 0, Nat.zero_le _, rfl, rfl⟩
  case round =>
    obtain ⟨k, q, hk, rfl, rfl⟩ := hrel
    by_cases hlt : k < n
    · obtain ⟨b, off, rfl, hb, hc⟩ := Rd.int H.out (by omega)
      obtain ⟨b', off', rfl, hb', hc'⟩ := Rd.int H'.out (by omega)
      have c1 := hc k hlt
      have c2 := hc' k hlt
      have hlt' : (k : Int) < (n : Int) := by omega
      clear hc hc'
      generalize l.getD k 0 = x at *
      have hx : (!((x : Int) == (x : Int))) = false := by simp
      go_wp2
      go_quiet (fail)
      go_wp2
      go_roundw
      case rel => exact ⟨k + 1, _, by omega, by go_num, rfl⟩
      case measure => simp [intOf]; omega
    · obtain rfl : k = n := by omega
      have hge : ¬ (k : Int) < (k : Int) := by omega
      go_wp2
      go_ret
      exact ⟨rfl, _, rfl⟩

def idxOf (n d : Nat) : Int := if d < n then (d : Int) else -1
theorem index_at (a : Option Addr) (n cap : Nat) (l : List Int) (x : Int) (d : Nat) (w : World) (h : Rd 1 w a n cap (I l)) (hn : n ≤ 1048576) (hd : d ≤ n) (h1 : ∀ k, k < d → l.getD k 0 ≠ x) (h2 : d < n → l.getD d 0 = x) :
    Calls Try.prog 22 #[.slice a n cap, .int .i64 x] w fun e w' => e = .returned (.int .i64 (idxOf n d)) ∧ w' = w := by
  have H := Lib.hid h
  have H1 := Lib.hid h1
  have H2 := Lib.hid h2
  clear h h1 h2
  go_enter Try.func22, Try.ntmps22
  go_wp2
  go_loop [8] (fun i => ∃ (k : Nat), k ≤ d ∧ i = .int .i64 (k : Int)) (fun i => n - (intOf i).toNat)
  case atStart => exact ⟨0, Nat.zero_le _, rfl⟩
  case round =>
    obtain ⟨k, hk, rfl⟩ := hrel
    by_cases hlt : k < n
    · obtain ⟨b, off, rfl, hb, hc⟩ := Rd.int H.out (by omega)
      have c1 := hc k hlt
      have hlt' : (k : Int) < (n : Int) := by omega
      clear hc
      by_cases hkd : k < d
      · have hx := H1.out k hkd
        generalize l.getD k 0 = y at *
        have hx2 : (x == y) = false := by rw [beq_eq_false_iff_ne]; exact Ne.symm hx
        clear hx
        go_wp2
        go_round
        case rel => exact ⟨k + 1, by omega, by go_num⟩
        case measure => simp [intOf]; omega
      · obtain rfl : k = d := by omega
        have hx := H2.out hlt
        rw [hx] at c1
        have hx2 : (x == x) = true := by simp
        have HFIN : Hid (idxOf n k = (k : Int)) := Lib.hid (if_pos hlt)
        clear hx
        go_wp2
        go_ret
        exact ⟨ret_int HFIN.out.symm, rfl⟩
    · obtain rfl : k = n := by omega
      obtain rfl : d = k := by omega
      have hge : ¬ (d : Int) < (d : Int) := by omega
      go_wp2
      go_ret
      exact ⟨ret_int (if_neg (Nat.lt_irrefl _)).symm, rfl⟩

theorem first_at (l : List Int) (x : Int) : ∃ d, d ≤ l.length ∧ (∀ k, k < d → l.getD k 0 ≠ x) ∧ (d < l.length → l.getD d 0 = x) ∧ (d < l.length ↔ x ∈ l) := by
  induction l with
  | nil => exact ⟨0, Nat.le_refl _, fun k hk => by omega, fun h => by simp at h, by simp⟩
  | cons y r ih =>
    by_cases h : y = x
    · subst h
      exact ⟨0, by simp, fun k hk => by omega, fun _ => by simp, by simp⟩
    · obtain ⟨d, h1, h2, h3, h4⟩ := ih
      refine ⟨d + 1, by simpa using h1, fun k hk => ?_, fun hd => by simpa using h3 (by simpa using hd), ?_⟩
      · cases k with
        | zero => simpa using h
        | succ k => simpa using h2 k (by omega)
      · rw [List.mem_cons]
        constructor
        · intro hd
          exact .inr (h4.1 (by simpa using hd))
        · rintro (e | e)
          · exact absurd e.symm h
          · have := h4.2 e
            simpa using this

theorem contains (a : Option Addr) (n cap : Nat) (l : List Int) (x : Int) (w : World) (h : Rd 1 w a n cap (I l)) (hn : n ≤ 1048576) :
    Calls Try.prog 9 #[.slice a n cap, .int .i64 x] w fun e w' => e = .returned (.bool (decide (x ∈ l))) ∧ w' = w := by
  have hl : l.length = n := by simpa [I] using h.len
  obtain ⟨d, h1, h2, h3, h4⟩ := first_at l x
  rw [hl] at h1 h3 h4
  have HC := Lib.hid (index_at a n cap l x d w h hn h1 h2 h3)
  by_cases hd : d < n
  · rw [show idxOf n d = (d : Int) from if_pos hd] at HC
    have HB : Hid (decide (x ∈ l) = true) := Lib.hid (decide_eq_true (h4.1 hd))
    rw [HB.out]
    clear h hl h1 h2 h3 h4
    go_enter Try.func9, Try.ntmps9
    go_wp2_with fail
    refine HC.out.mono ?_
    rintro e w' ⟨rfl, rfl⟩
    have h0 : (0 : Int) ≤ (d : Int) := by omega
    go_wp2_with fail
    go_ret
    exact ⟨rfl, rfl⟩
  · rw [show idxOf n d = -1 from if_neg hd] at HC
    have HB : Hid (decide (x ∈ l) = false) := Lib.hid (decide_eq_false (fun h => hd (h4.2 h)))
    rw [HB.out]
    clear h hl h1 h2 h3 h4
    go_enter Try.func9, Try.ntmps9
    go_wp2_with fail
    refine HC.out.mono ?_
    rintro e w' ⟨rfl, rfl⟩
    go_wp2_with fail
    go_ret
    exact ⟨rfl, rfl⟩

/-! ### isSorted -/
def Sorted1 (l : List Int) (w : World) (e : Ending) (w' : World) : Prop := ∃ b, e = .returned (.slice (some ⟨b, 0, none⟩) l.length l.length) ∧ Own 2 1 w' (some ⟨b, 0, none⟩) l.length l.length (I (isort l)) ∧ Only (fun _ => False) w w'
theorem make_nums (k : Nat) (hk : k ≤ 1048576) (w : World) : (Instr.makeSlice 22 (.int .i64 (k : Int)) (.int .i64 (k : Int))).run Try.prog w =
    .ok (.slice (some ⟨w.heap.size, 0, none⟩) k k) (w.alloc (.cells (madeCells #[.int .i64 0] k) 2)) := by
  have h := make_eq (P := Try.prog) (e := 2) (size := 1) .i64 .i64 Try.underlying22 (z := .int .i64 0) (bytes := 8) (by kernel_rfl) k (by omega) (by omega) w
  rw [Nat.mul_one] at h
  exact h
theorem nums_list (k : Nat) : (madeCells #[Value.int .i64 0] k).toList = I (List.replicate k 0) := by
  have h := made_one (.int .i64 0) rfl k
  rw [Nat.mul_one] at h
  rw [show (I (List.replicate k 0)) = List.replicate k (.int .i64 0) from by simp [I]]
  exact h

set_option maxRecDepth 100000 in
set_option maxHeartbeats 1600000 in
theorem isSorted (a : Option Addr) (n cap : Nat) (l : List Int) (w : World) (h : Rd 1 w a n cap (I l)) (hn : n ≤ 1000) :
    Calls Try.prog 7 #[.slice a n cap] w (Sorted1 l w) := by
  have hl : l.length = n := by simpa [I] using h.len
  have H := Lib.hid h
  have HL := Lib.hid hl
  have HMK := Lib.hid (make_nums n (by omega) w)
  clear h hl
  go_enter Try.func7, Try.ntmps7
  have hmk := HMK.out
  go_wp2
  clear hmk
  obtain ⟨W, hW⟩ : ∃ W, W = w.alloc (.cells (madeCells #[.int .i64 0] n) 2) := ⟨_, rfl⟩
  have hO : Only (fun _ => False) w W := by rw [hW]; exact (Only.refl _ w).alloc _
  have hown : Own 2 1 W (some ⟨w.heap.size, 0, none⟩) n n (I (place l 0)) := by
    rw [hW]
    have := Own.made 2 1 w (madeCells #[.int .i64 0] n) n n (Nat.le_refl _) (by unfold maxLen; omega) (by simp [madeCells]) (by rw [nums_list]; exact fun u hu => I_one _ u (List.mem_of_mem_take hu))
    rw [nums_list, List.take_of_length_le (by simp [I])] at this
    unfold place
    rw [HL.out]
    exact this
  rw [← hW]
  have HO := Lib.hid hO
  have HOWN := Lib.hid hown
  have HB : Hid (W.heap.size = w.heap.size + 1) := Lib.hid (by rw [hW]; simp)
  clear hW hO hown HMK
  go_loopw [14] (fun i wr => ∃ m : Nat, m ≤ n ∧ i = .int .i64 (m : Int) ∧ Hid (Own 2 1 wr (some ⟨w.heap.size, 0, none⟩) n n (I (place l m)) ∧ Only (fun _ => False) w wr)) (fun i _ => n - (intOf i).toNat)
  case atStart => exact ⟨0, Nat.zero_le _, rfl, Lib.hid ⟨HOWN.out, HO.out⟩⟩
  case round =>
    clear HO HOWN HB
    obtain ⟨m, hm, rfl, HR⟩ := hrel
    by_cases hlt : m < n
    · have hlt' : (m : Int) < (n : Int) := by omega
      obtain ⟨b, off, rfl, hb, hc⟩ := Rd.int (H.out.keep HR.out.2 (fun _ _ => id)) (by omega)
      have HC := Lib.hid hc
      have c1 := hc m hlt
      clear hc
      obtain ⟨x, hx⟩ : ∃ x, l.getD m 0 = x := ⟨_, rfl⟩
      rw [hx] at c1
      have HX := Lib.hid hx
      clear hx
      go_wp2
      go_loop [6, 21] (fun at_ i => ∃ k : Nat, k ≤ n ∧ i = .int .i64 (k : Int) ∧ at_ = .int .i64 (rankTo l m k : Int)) (fun _ i => n - (intOf i).toNat)
      case atStart => exact ⟨0, Nat.zero_le _, rfl, rfl⟩
      case round =>
        obtain ⟨k, hk, rfl, rfl⟩ := hrel
        have hrk := rankTo_le l m k
        by_cases hkn : k < n
        · have hkn' : (k : Int) < (n : Int) := by omega
          have c2 := HC.out k hkn
          have hsucc := rankTo_succ l m k
          have HS := Lib.hid hsucc
          clear hsucc
          have hcase : (l.getD k 0 < x ∧ before l m k = true) ∨ (¬ l.getD k 0 < x ∧ l.getD k 0 = x ∧ k < m ∧ before l m k = true) ∨ (¬ l.getD k 0 < x ∧ l.getD k 0 = x ∧ ¬ k < m ∧ before l m k = false) ∨ (¬ l.getD k 0 < x ∧ ¬ l.getD k 0 = x ∧ before l m k = false) := by
            unfold before
            rw [HX.out]
            by_cases q1 : l.getD k 0 < x
            · exact .inl ⟨q1, decide_eq_true (.inl q1)⟩
            · by_cases q2 : l.getD k 0 = x
              · by_cases q3 : k < m
                · exact .inr (.inl ⟨q1, q2, q3, decide_eq_true (.inr ⟨q2, q3⟩)⟩)
                · exact .inr (.inr (.inl ⟨q1, q2, q3, decide_eq_false (by omega)⟩))
              · exact .inr (.inr (.inr ⟨q1, q2, decide_eq_false (by omega)⟩))
          rcases hcase with ⟨q1, q4⟩ | ⟨q1, q2, q3, q4⟩ | ⟨q1, q2, q3, q4⟩ | ⟨q1, q2, q4⟩
          · rw [q4, if_pos rfl] at HS
            clear q4
            generalize l.getD k 0 = y at *
            go_wp2
            go_round
            case rel => exact ⟨k + 1, by omega, by go_num, by rw [HS.out]; go_num⟩
            case measure => simp [intOf]; omega
          · rw [q4, if_pos rfl] at HS
            rw [q2] at c2 q1
            clear q4 q2
            have e1 : (x == x) = true := by simp
            have q3' : (k : Int) < (m : Int) := by omega
            go_wp2
            go_round
            case rel => exact ⟨k + 1, by omega, by go_num, by rw [HS.out]; go_num⟩
            case measure => simp [intOf]; omega
          · rw [q4, if_neg (by simp), Nat.add_zero (rankTo l m k)] at HS
            rw [q2] at c2 q1
            clear q4 q2
            have e1 : (x == x) = true := by simp
            have q3' : ¬ (k : Int) < (m : Int) := by omega
            go_wp2
            all_goals
              go_round
              case rel => exact ⟨k + 1, by omega, by go_num, by rw [HS.out]⟩
              case measure => simp [intOf]; omega
          · rw [q4, if_neg (by simp), Nat.add_zero (rankTo l m k)] at HS
            clear q4
            generalize l.getD k 0 = y at *
            have e1 : (y == x) = false := by rw [beq_eq_false_iff_ne]; exact q2
            clear q2
            go_wp2
            all_goals
              go_round
              case rel => exact ⟨k + 1, by omega, by go_num, by rw [HS.out]⟩
              case measure => simp [intOf]; omega
        · obtain rfl : k = n := by omega
          have hge : ¬ (k : Int) < (k : Int) := by omega
          have hrl : rankTo l m k < k := by
            have := rank_lt (l := l) (i := m) (by rw [HL.out]; exact hlt)
            unfold rank at this
            rwa [HL.out] at this
          have hrl' : (rankTo l m k : Int) < (k : Int) := by omega
          have HPL : Hid (place l (m + 1) = (place l m).set (rankTo l m k) x) := Lib.hid (by
            show (place l m).set (rank l m) (l.getD m 0) = _
            unfold rank
            rw [HL.out, HX.out])
          have fo := HR.out.1.frozen rfl (rankTo l m k)
          obtain ⟨b2, he2, hb2, hcs2⟩ := HR.out.1.at (by omega)
          cases he2
          have co : wr.cell? ⟨w.heap.size, rankTo l m k, none⟩ = some (.int .i64 ((place l m).getD (rankTo l m k) 0)) := by
            have := hcs2 _ _ (I_get (place l m) (rankTo l m k) (by rw [place_length, HL.out]; exact hrl))
            simpa using this
          clear hcs2
          generalize (place l m).getD (rankTo l m k) 0 = z at *
          have HST := Lib.hid (HR.out.1.set rfl (rankTo l m k) (.int .i64 x) rfl (by omega))
          go_wp2
          go_roundw
          case rel =>
            refine ⟨m + 1, by omega, by go_num, Lib.hid ⟨?_, HR.out.2.setCell _ _ (fun h => absurd h (Nat.lt_irrefl _))⟩⟩
            rw [HPL.out]
            have := HST.out
            unfold I at this ⊢
            rwa [List.map_set]
          case measure => simp [intOf]; omega
    · obtain rfl : m = n := by omega
      have hge : ¬ (m : Int) < (m : Int) := by omega
      have HFIN : Hid (Sorted1 l w (.returned (.slice (some ⟨w.heap.size, 0, none⟩) m m)) wr) := Lib.hid (by
        have := HR.out.1
        refine ⟨w.heap.size, by rw [HL.out], ?_, HR.out.2⟩
        rw [HL.out]
        unfold isort
        rw [HL.out]
        exact this)
      go_wp2
      go_ret
      exact HFIN.out
end Go.Proofs.Ytfkggjjnhjappaa.isl

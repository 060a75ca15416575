/-
  A place, and a word, that are put into the rows of a sparse array.
-/
import Derived.Test.YtacjkbljokjdkaaBaSearch
import Derived.Test.YtacjkbljokjdkaaBaOrD
namespace Go.Proofs.Ytacjkbljokjdkaa.ba
open Go.RowKit Go.Proofs.Ytacjkbljokjdkaa.base Go.Proofs.Ytacjkbljokjdkaa.heap Go.Proofs.Ytacjkbljokjdkaa.rows Go.Proofs.Ytacjkbljokjdkaa.bit Go.Proofs.Ytacjkbljokjdkaa.bs
set_option linter.unusedVariables false
theorem slIdx : SliceOf Try.prog 97 24 1 8 := SliceOf.mk (z := .int .u64 0) Try.underlying97 (by kernel_rfl) rfl
/-- a number is put in at a place -/
def ins (l : List Nat) (i x : Nat) : List Nat := l.take i ++ x :: l.drop i
theorem ins_len (l : List Nat) (i x : Nat) : (ins l i x).length = l.length + 1 := by
  unfold ins
  rw [List.length_append, List.length_cons, List.length_take, List.length_drop]; omega
theorem ins_end (l : List Nat) (x : Nat) : ins l l.length x = l ++ [x] := by unfold ins; simp
theorem put_ins {l : List Nat} {x : Nat} (h : ¬ x ∈ l) : put l x = ins l (at_ l x) x := by unfold put ins; rw [if_neg h]
theorem shift_ins (l : List Nat) (i x z : Nat) (h : i < l.length) : ((l ++ [z]).take (i + 1) ++ l.drop i).set i x = ins l i x := by
  have h1 : (l ++ [z]).take (i + 1) = l.take i ++ [l[i]] := by
    rw [List.take_append_of_le_length (by omega), List.take_succ_eq_append_getElem h]
  have h2 : (l.take i).length = i := by rw [List.length_take]; omega
  rw [h1, List.append_assoc, List.set_append_right _ _ (by omega), h2, Nat.sub_self]
  rfl
/-- the row behind a field has turned -/
def RowP (p o : Nat) (e : Nat) (cs : Array Value) (t : TypeId) (a : Option Addr) (L : List Nat) (v : Value) (w : World) (en : Ending) (w' : World) : Prop :=
  ∃ a' c', en = .returned v ∧ w'.heap[p]? = some (.cells (cs.setIfInBounds o (.slice a' L.length c')) t (0, 0)) ∧ Own e 1 w' a' L.length c' (U L) ∧ Only (fun k => k = p ∨ At a k) w w' ∧ (∀ k, At a' k → At a k ∨ w.heap.size ≤ k)
theorem own_shift {e : Nat} {w w' : World} {g n N cap i m : Nat} {L : List Nat} {z : Nat} {cur : Array Value} (hN : n + 1 = N) (h : Own e 1 w (some ⟨g, 0, none⟩) N cap (U (L ++ [z]))) (hL : L.length = n) (hi : i < n) (hb : w.heap[g]? = some (.cells cur e (0, 0)))
    (hm : m = n - i) (hw : w'.heap[g]? = some (.cells (cur.toList.take (i + 1) ++ ((U (L ++ [z])).drop i).take m ++ cur.toList.drop (i + 1 + m)).toArray e (0, 0))) : Own e 1 w' (some ⟨g, 0, none⟩) N cap (U ((L ++ [z]).take (i + 1) ++ L.drop i)) := by
  have h4 : ((U (L ++ [z])).drop i).take m = U (L.drop i) := by
    have e1 : (U (L ++ [z])).drop i = U (L.drop i ++ [z]) := by
      have : (L ++ [z]).drop i = L.drop i ++ [z] := List.drop_append_of_le_length (by omega)
      unfold U; rw [← List.map_drop, this]
    have e2 : (L.drop i ++ [z]).take m = L.drop i := by
      have hl : (L.drop i).length = m := by rw [List.length_drop]; omega
      rw [← hl]; exact List.take_left
    rw [e1]
    have : (U (L.drop i ++ [z])).take m = U ((L.drop i ++ [z]).take m) := by unfold U; rw [List.map_take]
    rw [this, e2]
  rw [h4] at hw
  have := Own.over h hb hw (by rw [U_len, List.length_drop]; omega) (by omega) (U_one _)
  have e3 : (U (L ++ [z])).take (i + 1) ++ U (L.drop i) = U ((L ++ [z]).take (i + 1) ++ L.drop i) := by simp only [U, List.map_append, List.map_take]
  rw [e3] at this
  exact this
theorem set_same {cs : Array Value} {o : Nat} {v : Value} (h : cs[o]? = some v) : cs.setIfInBounds o v = cs := by
  apply Array.ext_getElem?
  intro i
  rw [Array.getElem?_setIfInBounds]
  have h1 := (Array.getElem?_eq_some_iff.1 h).1
  split
  · rename_i e; subst e; exact h.symm
  · rfl
section
variable {w : World} {p o n c : Nat} {cs : Array Value} {t : TypeId} {a : Option Addr} {L : List Nat}
set_option maxRecDepth 100000 in
set_option maxHeartbeats 1600000 in
theorem insertU (hp : w.heap[p]? = some (.cells cs t (0, 0))) (ho : cs[o]? = some (.slice a n c)) (h : Own 24 1 w a n c (U L)) (hL : L.length = n) (hs : Asc L) (hna : ¬ At a p) (x : Nat) (hn : n ≤ 1000) :
    Calls Try.prog 117 #[.pointer (some ⟨p, o, none⟩), .int .u64 (x : Int)] w (RowP p o 24 cs t a (put L x) (.tuple #[.int .i64 (at_ L x : Nat), .bool (!decide (x ∈ L))]) w) := by
  have HS := Lib.hid (searchU (w := w) ⟨h.rd, by rw [hL]⟩ hs x (by omega))
  have hal := at_le L x
  rw [hL] at hal
  have c0 : w.cell? ⟨p, o, none⟩ = some (.slice a n c) := block_cell hp ho
  have hbd := h.bound
  have HP := Lib.hid (And.intro hp (And.intro ho (And.intro h (And.intro hL hna))))
  have hpl := lt_of_heap hp
  have hpu := put_ins (l := L) (x := x)
  have hmm := mem_at hs (k := x)
  obtain ⟨i, hi⟩ : ∃ i, at_ L x = i := ⟨_, rfl⟩
  have hbe := at_below L x
  rw [hi] at hal hmm hbe hpu HS ⊢
  by_cases hin : i = n
  · subst hin
    have hx : ¬ x ∈ L := fun e => by
      have := hmm.1 e
      rw [List.getElem?_eq_none (by omega)] at this; cases this
    rw [hpu hx]
    have HX : Hid (decide (x ∈ L) = false) := Lib.hid (by simp [hx])
    have hd := HX.out
    rw [hd, ← hL, ins_end]
    rw [hL]
    clear hp ho h hL hs hna hpu hmm hbe hi hx hd
    go_enter Try.func117, Try.ntmps117
    go_wp2_with (go_at_call 113; refine HS.out.mono ?_)
    rintro e w1 ⟨rfl, hS⟩
    have d0 : w1.cell? ⟨p, o, none⟩ = some (.slice a i c) := (hS.cell (p := ⟨p, o, none⟩) hpl id).trans c0
    have HS1 := Lib.hid hS
    clear hS c0 HS
    go_wp2_with (at_builtin; refine wpList_append (i + 1) (U L ++ U [x]) rfl _ _ _ _ rfl slIdx rfl ((HP.out.2.2.1.keep HS1.out (fun _ _ => id)).keep (S := fun _ => False) (by repeat (first | exact Only.refl _ _ | apply Only.alloc | apply Only.drew)) (fun _ _ => id)) rfl (Src.row (size := 1) (cs := #[.int .u64 (x : Int)]) (t := 24) (fr := (0, 0)) Try.underlying97 (by exact heap_alloc_new _ _) 1 1 rfl (by intro u hu; simp at hu; subst hu; rfl)) rfl rfl (by unfold maxLen; omega) (by omega) ?_)
    intro a2 c2 w2 hG
    have hO1 : Only (At a) w w2 := (HS1.out.mono (fun _ _ f => f.elim)).trans ((((Only.refl (At a) w1).alloc _)).trans hG.only (fun _ _ h => h)) (fun _ _ h => h)
    have hp2 := hO1.obj HP.out.1 HP.out.2.2.2.2
    have f0 : w2.frozen? ⟨p, o, none⟩ = false := block_free hp2
    have d1 : w2.cell? ⟨p, o, none⟩ = some (.slice a i c) := block_cell hp2 HP.out.2.1
    have HFIN : Hid (RowP p o 24 cs t a (L ++ [x]) (.tuple #[.int .i64 (i : Int), .bool true]) w (.returned (.tuple #[.int .i64 (i : Int), .bool true])) (w2.setCell ⟨p, o, none⟩ (.slice a2 (i + 1) c2))) := Lib.hid (by
      have hO2 : Only (fun k => k = p) w2 (w2.setCell ⟨p, o, none⟩ (.slice a2 (i + 1) c2)) := (Only.refl _ _).setCell _ _ (fun _ => rfl)
      have hl : (L ++ [x]).length = i + 1 := by rw [List.length_append, HP.out.2.2.2.1]; rfl
      have hfr : ∀ k, At a2 k → At a k ∨ w.heap.size ≤ k := fun k hk => (hG.fresh k hk).imp id (fun h => by have := HS1.out.size; simp at h; omega)
      refine ⟨a2, c2, rfl, by rw [hl]; exact setCell_heap hp2 o _, ?_, (hO1.mono (fun _ _ h => .inr h)).trans hO2 (fun _ _ h => .inl h), hfr⟩
      rw [hl]
      have := hG.own.keep hO2 (fun k hk e => by
        rcases hfr k hk with h1 | h1
        · rw [e] at h1; exact HP.out.2.2.2.2 h1
        · omega)
      have e2 : U L ++ U [x] = U (L ++ [x]) := by simp [U]
      rw [e2] at this
      exact this)
    clear hG hO1 hp2 d0
    go_wp2_with fail
    go_ret2
    exact HFIN.out
  · obtain ⟨y, hy⟩ : ∃ y, L[i]? = some y := ⟨L[i]'(by omega), List.getElem?_eq_getElem _⟩
    rw [hy] at hmm
    by_cases hxy : y = x
    · subst hxy
      have hx : y ∈ L := hmm.2 rfl
      have HPU : Hid (put L y = L) := Lib.hid (by unfold put; rw [if_pos hx])
      have hd : decide (y ∈ L) = true := by simp [hx]
      rw [hd, HPU.out]
      have hne : ((i : Int) == (n : Int)) = false := by rw [beq_eq_false_iff_ne]; omega
      have hi0 : (0 : Int) ≤ (i : Int) := by omega
      have hi1 : (i : Int) < (n : Int) := by omega
      obtain ⟨b, ha, hb, hc⟩ := h.at (by omega)
      have c1 := hc i (.int .u64 (y : Int)) (by unfold U; rw [List.getElem?_map, hy]; rfl)
      rw [Nat.zero_add] at c1
      have hbl := hb
      subst ha
      clear hp ho h hL hs hna hpu hmm hbe hi hx hd hc hy
      go_enter Try.func117, Try.ntmps117
      go_wp2_with (go_at_call 113; refine HS.out.mono ?_)
      rintro e w1 ⟨rfl, hS⟩
      have d0 : w1.cell? ⟨p, o, none⟩ = some (.slice (some ⟨b, 0, none⟩) n c) := (hS.cell (p := ⟨p, o, none⟩) hpl id).trans c0
      have d1 : w1.cell? ⟨b, i, none⟩ = some (.int .u64 (y : Int)) := (hS.cell (p := ⟨b, i, none⟩) hb id).trans c1
      have HS1 := Lib.hid hS
      clear hS c0 c1 HS
      go_wp2_with fail
      go_ret2
      refine ⟨some ⟨b, 0, none⟩, c, rfl, ?_, ?_, HS1.out.mono (fun _ _ f => f.elim), fun k hk => .inl hk⟩
      · rw [HP.out.2.2.2.1, set_same HP.out.2.1]; exact HS1.out.obj HP.out.1 id
      · rw [HP.out.2.2.2.1]; exact HP.out.2.2.1.keep HS1.out (fun _ _ => id)
    · have hx : ¬ x ∈ L := fun e => hxy (by have := hmm.1 e; exact Option.some.inj this)
      rw [hpu hx]
      have HX : Hid (decide (x ∈ L) = false) := Lib.hid (by simp [hx])
      have hd := HX.out
      rw [hd]
      have hne : ((i : Int) == (n : Int)) = false := by rw [beq_eq_false_iff_ne]; omega
      have hxy' : ((y : Int) == (x : Int)) = false := by rw [beq_eq_false_iff_ne]; omega
      have hi0 : (0 : Int) ≤ (i : Int) := by omega
      have hin' : i < n := by omega
      have hi1 : (i : Int) < (n : Int) := by omega
      obtain ⟨b, ha, hb, hc⟩ := h.at (by omega)
      have c1 := hc i (.int .u64 (y : Int)) (by unfold U; rw [List.getElem?_map, hy]; rfl)
      rw [Nat.zero_add] at c1
      subst ha
      obtain ⟨N, HNN⟩ : ∃ N, Hid (n + 1 = N) := ⟨_, Lib.hid rfl⟩
      have hN0 : N ≤ 1001 ∧ i + 1 < N := by have := HNN.out; omega
      obtain ⟨hN1, hN2⟩ := hN0
      clear hp ho h hL hs hna hpu hmm hbe hi hx hd hc hy hxy
      go_enter Try.func117, Try.ntmps117
      go_wp2_with (go_at_call 113; refine HS.out.mono ?_)
      rintro e w1 ⟨rfl, hS⟩
      have d0 : w1.cell? ⟨p, o, none⟩ = some (.slice (some ⟨b, 0, none⟩) n c) := (hS.cell (p := ⟨p, o, none⟩) hpl id).trans c0
      have d1 : w1.cell? ⟨b, i, none⟩ = some (.int .u64 (y : Int)) := (hS.cell (p := ⟨b, i, none⟩) hb id).trans c1
      have HS1 := Lib.hid hS
      clear hS c0 c1 HS
      go_wp2_with (at_builtin; refine wpList_append N (U L ++ U [0]) rfl _ _ _ _ rfl slIdx rfl ((HP.out.2.2.1.keep HS1.out (fun _ _ => id)).keep (S := fun _ => False) (by repeat (first | exact Only.refl _ _ | apply Only.alloc | apply Only.drew)) (fun _ _ => id)) rfl (Src.row (size := 1) (cs := #[.int .u64 0]) (t := 24) (fr := (0, 0)) Try.underlying97 (by exact heap_alloc_new _ _) 1 1 rfl (by intro u hu; simp at hu; subst hu; rfl)) HNN.out rfl (by unfold maxLen; omega) (by omega) ?_)
      intro a2 c2 w2 hG
      have hO1 : Only (At (some ⟨b, 0, none⟩)) w w2 := (HS1.out.mono (fun _ _ f => f.elim)).trans ((((Only.refl (At (some ⟨b, 0, none⟩)) w1).alloc _)).trans hG.only (fun _ _ h => h)) (fun _ _ h => h)
      have hp2 := hO1.obj HP.out.1 HP.out.2.2.2.2
      have f0 : w2.frozen? ⟨p, o, none⟩ = false := block_free hp2
      have d2 : w2.cell? ⟨p, o, none⟩ = some (.slice (some ⟨b, 0, none⟩) n c) := block_cell hp2 HP.out.2.1
      have hfr : ∀ k, At a2 k → At (some ⟨b, 0, none⟩) k ∨ w.heap.size ≤ k := fun k hk => (hG.fresh k hk).imp id (fun h => by have := HS1.out.size; simp at h; omega)
      have hn2 : a2 ≠ none := fun e => by have := (hG.nil e).1; cases this
      obtain ⟨b2, ha2, hb2l, _⟩ := hG.own.at (by omega)
      subst ha2
      have hb2p : b2 ≠ p := fun e => by
        rcases hfr b2 rfl with h1 | h1
        · exact HP.out.2.2.2.2 (by rw [e] at h1; exact h1)
        · omega
      obtain ⟨w3, hw3⟩ : ∃ w3, w3 = w2.setCell ⟨p, o, none⟩ (.slice (some ⟨b2, 0, none⟩) N c2) := ⟨_, rfl⟩
      have hO2 : Only (fun k => k = p) w2 w3 := by rw [hw3]; exact (Only.refl _ _).setCell _ _ (fun _ => rfl)
      have hp3 : w3.heap[p]? = some (.cells (cs.setIfInBounds o (.slice (some ⟨b2, 0, none⟩) N c2)) t (0, 0)) := by rw [hw3]; exact setCell_heap hp2 o _
      have hol := (Array.getElem?_eq_some_iff.1 HP.out.2.1).1
      have d3 : w3.cell? ⟨p, o, none⟩ = some (.slice (some ⟨b2, 0, none⟩) N c2) := block_cell hp3 (by simp [hol])
      have hown3 : Own 24 1 w3 (some ⟨b2, 0, none⟩) N c2 (U (L ++ [0])) := by
        have := hG.own.keep hO2 (fun k hk e => hb2p (by rw [← e]; exact hk))
        have e2 : U L ++ U [0] = U (L ++ [0]) := by simp [U]
        rw [e2] at this
        exact this
      obtain ⟨cur, hcur, hcs⟩ := own_block hown3
      have hbd2 := hown3.bound
      have HW3 : Hid (w3.heap[p]? = some (.cells (cs.setIfInBounds o (.slice (some ⟨b2, 0, none⟩) N c2)) t (0, 0)) ∧ Own 24 1 w3 (some ⟨b2, 0, none⟩) N c2 (U (L ++ [0])) ∧ w3.heap[b2]? = some (.cells cur 24 (0, 0)) ∧ Only (fun k => k = p ∨ At (some ⟨b, 0, none⟩) k) w w3 ∧ (∀ k, At (some ⟨b2, 0, none⟩) k → At (some ⟨b, 0, none⟩) k ∨ w.heap.size ≤ k)) := Lib.hid ⟨hp3, hown3, hcur, (hO1.mono (fun _ _ h => .inr h)).trans hO2 (fun _ _ h => .inl h), hfr⟩
      have HRS : Hid (Rd 1 w3 (some ⟨b2, i, none⟩) (N - i) (c2 - i) ((U (L ++ [0])).drop i)) := Lib.hid (by
        have := hown3.rd.drop (k := i) (by omega)
        rw [Nat.mul_one, Nat.zero_add] at this
        exact this)
      have HFIT : Hid (i + 1 + (N - (i + 1)) ≤ cur.size) := Lib.hid (by have := HNN.out; omega)
      have g1 : ¬ c2 = i + 1 := by omega
      have g2 : ¬ c2 = i := by omega
      have g3 : (i : Int) + 1 ≤ (c2 : Int) := by omega
      have g4 : (i : Int) ≤ (c2 : Int) := by omega
      have g5 : IntKind.i64.wrap ((i : Int) + 1) = (i : Int) + 1 := IntWalk.i64_in _ (by omega)
      have g6 : ((i : Int) + 1).toNat = i + 1 := by omega
      have g7 : (i : Int) + 1 ≤ (N : Int) := by omega
      have g8 : (i : Int) ≤ (N : Int) := by omega
      have g9 : (0 : Int) ≤ (i : Int) + 1 := by omega
      have HK : Hid (n - i = min (N - i) (N - (i + 1))) := Lib.hid (by have := HNN.out; omega)
      clear hG hO1 hp2 d0 hO2 hown3 hcur hcs hfr hn2 hp3 d1
      go_upto_region 8 with fail
      rw [← hw3]
      clear hw3 f0 d2
      refine wp_region_still_tail 11 (by kernel_rfl) (by kernel_rfl) ?_
      simp only [List.take_succ_cons, List.take_zero, List.drop_succ_cons, List.drop_zero]
      repeat still_step
      refine wpStill_nil ?_
      refine wpList_copy (n - i) rfl _ _ _ _ rfl slIdx rfl HW3.out.2.2.1 rfl (HRS.out.of_heap rfl) HK.out HFIT.out ?_
      intro w5 hw5 ho5
      have hO5 : Only (fun j => j = b2) w3 w5 := ⟨ho5.os, ho5.tape, ho5.output, ho5.size, ho5.block⟩
      have hown5 := own_shift (m := N - (i + 1)) HNN.out HW3.out.2.1 HP.out.2.2.2.1 hin' HW3.out.2.2.1 (by have := HNN.out; omega) (by rw [show N - (i + 1) = n - i by have := HNN.out; omega]; exact hw5)
      have hp5 := hO5.obj HW3.out.1 (fun e => hb2p e.symm)
      have d5 : w5.cell? ⟨p, o, none⟩ = some (.slice (some ⟨b2, 0, none⟩) N c2) := block_cell hp5 (by simp [hol])
      have f5 : w5.frozen? ⟨b2, i, none⟩ = false := hown5.frozen rfl i
      obtain ⟨_, q5, _, hc5⟩ := hown5.at (by omega)
      cases q5
      have g5' := hc5.at i (by rw [hown5.len]; omega)
      rw [Nat.zero_add] at g5'
      generalize (U ((L ++ [0]).take (i + 1) ++ L.drop i))[i]'(by rw [hown5.len]; omega) = z5 at g5'
      have HFIN : Hid (RowP p o 24 cs t (some ⟨b, 0, none⟩) (ins L i x) (.tuple #[.int .i64 (i : Int), .bool true]) w (.returned (.tuple #[.int .i64 (i : Int), .bool true])) (w5.setCell ⟨b2, i, none⟩ (.int .u64 (x : Int)))) := Lib.hid (by
        have hO6 : Only (fun k => k = b2) w5 (w5.setCell ⟨b2, i, none⟩ (.int .u64 (x : Int))) := (Only.refl _ _).setCell _ _ (fun _ => rfl)
        have hl : (ins L i x).length = N := by rw [ins_len, HP.out.2.2.2.1]; exact HNN.out
        refine ⟨some ⟨b2, 0, none⟩, c2, rfl, ?_, ?_, ?_, HW3.out.2.2.2.2⟩
        · rw [hl]; exact hO6.obj hp5 (fun e => hb2p e.symm)
        · rw [hl]
          have := hown5.set rfl i (.int .u64 (x : Int)) rfl (by omega)
          have e2 : (U ((L ++ [0]).take (i + 1) ++ L.drop i)).set i (.int .u64 (x : Int)) = U (ins L i x) := by
            rw [← shift_ins L i x 0 (by rw [HP.out.2.2.2.1]; exact hin')]; simp only [U, List.map_set]
          rw [e2] at this
          exact this
        · exact (HW3.out.2.2.2.1.trans hO5 (fun k hk e => by
            subst e
            rcases HW3.out.2.2.2.2 k rfl with h1 | h1
            · exact .inr h1
            · omega)).trans hO6 (fun k hk e => by
            subst e
            rcases HW3.out.2.2.2.2 k rfl with h1 | h1
            · exact .inr h1
            · omega))
      clear hw5 ho5 hO5 hown5 hp5 hc5
      go_wp2_with fail
      go_ret2
      exact HFIN.out
set_option maxRecDepth 100000 in
set_option maxHeartbeats 1600000 in
theorem insertB (hp : w.heap[p]? = some (.cells cs t (0, 0))) (ho : cs[o]? = some (.slice a n c)) (h : Own 79 1 w a n c (U L)) (hL : L.length = n) (hna : ¬ At a p) (i : Nat) (hal : i ≤ n) (hn : n ≤ 1000) :
    Calls Try.prog 118 #[.pointer (some ⟨p, o, none⟩), .int .i64 (i : Int)] w (RowP p o 79 cs t a (ins L i 0) (.tuple #[]) w) := by
  have c0 : w.cell? ⟨p, o, none⟩ = some (.slice a n c) := block_cell hp ho
  have hbd := h.bound
  have HP := Lib.hid (And.intro hp (And.intro ho (And.intro h (And.intro hL hna))))
  have hpl := lt_of_heap hp
  have HS1 : Hid (Same w w) := Lib.hid (Only.refl _ _)
  by_cases hin : i = n
  · subst hin
    rw [← hL, ins_end]
    rw [hL]
    have d0 := c0
    clear hp ho h hL hna c0
    go_enter Try.func118, Try.ntmps118
    go_wp2_with (at_builtin; refine wpList_append (i + 1) (U L ++ U [0]) rfl _ _ _ _ rfl slBl rfl ((HP.out.2.2.1.keep HS1.out (fun _ _ => id)).keep (S := fun _ => False) (by repeat (first | exact Only.refl _ _ | apply Only.alloc | apply Only.drew)) (fun _ _ => id)) rfl (Src.row (size := 1) (cs := #[.int .u64 0]) (t := 79) (fr := (0, 0)) Try.underlying96 (by exact heap_alloc_new _ _) 1 1 rfl (by intro u hu; simp at hu; subst hu; rfl)) rfl rfl (by unfold maxLen; omega) (by omega) ?_)
    intro a2 c2 w2 hG
    have hO1 : Only (At a) w w2 := (HS1.out.mono (fun _ _ f => f.elim)).trans ((((Only.refl (At a) w).alloc _)).trans hG.only (fun _ _ h => h)) (fun _ _ h => h)
    have hp2 := hO1.obj HP.out.1 HP.out.2.2.2.2
    have f0 : w2.frozen? ⟨p, o, none⟩ = false := block_free hp2
    have d1 : w2.cell? ⟨p, o, none⟩ = some (.slice a i c) := block_cell hp2 HP.out.2.1
    have HFIN : Hid (RowP p o 79 cs t a (L ++ [0]) (.tuple #[]) w (.returned (.tuple #[])) (w2.setCell ⟨p, o, none⟩ (.slice a2 (i + 1) c2))) := Lib.hid (by
      have hO2 : Only (fun k => k = p) w2 (w2.setCell ⟨p, o, none⟩ (.slice a2 (i + 1) c2)) := (Only.refl _ _).setCell _ _ (fun _ => rfl)
      have hl : (L ++ [0]).length = i + 1 := by rw [List.length_append, HP.out.2.2.2.1]; rfl
      have hfr : ∀ k, At a2 k → At a k ∨ w.heap.size ≤ k := fun k hk => (hG.fresh k hk).imp id (fun h => by have := HS1.out.size; simp at h; omega)
      refine ⟨a2, c2, rfl, by rw [hl]; exact setCell_heap hp2 o _, ?_, (hO1.mono (fun _ _ h => .inr h)).trans hO2 (fun _ _ h => .inl h), hfr⟩
      rw [hl]
      have := hG.own.keep hO2 (fun k hk e => by
        rcases hfr k hk with h1 | h1
        · rw [e] at h1; exact HP.out.2.2.2.2 h1
        · omega)
      have e2 : U L ++ U [0] = U (L ++ [0]) := by simp [U]
      rw [e2] at this
      exact this)
    clear hG hO1 hp2 d0
    go_wp2_with fail
    refine bodyPost_ret (results_none rfl _ _ _) rfl ?_
    exact HFIN.out
  · have hne : ((i : Int) == (n : Int)) = false := by rw [beq_eq_false_iff_ne]; omega
    have hi0 : (0 : Int) ≤ (i : Int) := by omega
    have hin' : i < n := by omega
    have hi1 : (i : Int) < (n : Int) := by omega
    obtain ⟨b, ha, hb, hc⟩ := h.at (by omega)
    subst ha
    obtain ⟨N, HNN⟩ : ∃ N, Hid (n + 1 = N) := ⟨_, Lib.hid rfl⟩
    have hN0 : N ≤ 1001 ∧ i + 1 < N := by have := HNN.out; omega
    obtain ⟨hN1, hN2⟩ := hN0
    have d0 := c0
    clear hp ho h hL hna c0 hc
    go_enter Try.func118, Try.ntmps118
    go_wp2_with (at_builtin; refine wpList_append N (U L ++ U [0]) rfl _ _ _ _ rfl slBl rfl ((HP.out.2.2.1.keep HS1.out (fun _ _ => id)).keep (S := fun _ => False) (by repeat (first | exact Only.refl _ _ | apply Only.alloc | apply Only.drew)) (fun _ _ => id)) rfl (Src.row (size := 1) (cs := #[.int .u64 0]) (t := 79) (fr := (0, 0)) Try.underlying96 (by exact heap_alloc_new _ _) 1 1 rfl (by intro u hu; simp at hu; subst hu; rfl)) HNN.out rfl (by unfold maxLen; omega) (by omega) ?_)
    intro a2 c2 w2 hG
    have hO1 : Only (At (some ⟨b, 0, none⟩)) w w2 := (HS1.out.mono (fun _ _ f => f.elim)).trans ((((Only.refl (At (some ⟨b, 0, none⟩)) w).alloc _)).trans hG.only (fun _ _ h => h)) (fun _ _ h => h)
    have hp2 := hO1.obj HP.out.1 HP.out.2.2.2.2
    have f0 : w2.frozen? ⟨p, o, none⟩ = false := block_free hp2
    have d2 : w2.cell? ⟨p, o, none⟩ = some (.slice (some ⟨b, 0, none⟩) n c) := block_cell hp2 HP.out.2.1
    have hfr : ∀ k, At a2 k → At (some ⟨b, 0, none⟩) k ∨ w.heap.size ≤ k := fun k hk => (hG.fresh k hk).imp id (fun h => by have := HS1.out.size; simp at h; omega)
    have hn2 : a2 ≠ none := fun e => by have := (hG.nil e).1; cases this
    obtain ⟨b2, ha2, hb2l, _⟩ := hG.own.at (by omega)
    subst ha2
    have hb2p : b2 ≠ p := fun e => by
      rcases hfr b2 rfl with h1 | h1
      · exact HP.out.2.2.2.2 (by rw [e] at h1; exact h1)
      · omega
    obtain ⟨w3, hw3⟩ : ∃ w3, w3 = w2.setCell ⟨p, o, none⟩ (.slice (some ⟨b2, 0, none⟩) N c2) := ⟨_, rfl⟩
    have hO2 : Only (fun k => k = p) w2 w3 := by rw [hw3]; exact (Only.refl _ _).setCell _ _ (fun _ => rfl)
    have hp3 : w3.heap[p]? = some (.cells (cs.setIfInBounds o (.slice (some ⟨b2, 0, none⟩) N c2)) t (0, 0)) := by rw [hw3]; exact setCell_heap hp2 o _
    have hol := (Array.getElem?_eq_some_iff.1 HP.out.2.1).1
    have d3 : w3.cell? ⟨p, o, none⟩ = some (.slice (some ⟨b2, 0, none⟩) N c2) := block_cell hp3 (by simp [hol])
    have hown3 : Own 79 1 w3 (some ⟨b2, 0, none⟩) N c2 (U (L ++ [0])) := by
      have := hG.own.keep hO2 (fun k hk e => hb2p (by rw [← e]; exact hk))
      have e2 : U L ++ U [0] = U (L ++ [0]) := by simp [U]
      rw [e2] at this
      exact this
    obtain ⟨cur, hcur, hcs⟩ := own_block hown3
    have hbd2 := hown3.bound
    have HW3 : Hid (w3.heap[p]? = some (.cells (cs.setIfInBounds o (.slice (some ⟨b2, 0, none⟩) N c2)) t (0, 0)) ∧ Own 79 1 w3 (some ⟨b2, 0, none⟩) N c2 (U (L ++ [0])) ∧ w3.heap[b2]? = some (.cells cur 79 (0, 0)) ∧ Only (fun k => k = p ∨ At (some ⟨b, 0, none⟩) k) w w3 ∧ (∀ k, At (some ⟨b2, 0, none⟩) k → At (some ⟨b, 0, none⟩) k ∨ w.heap.size ≤ k)) := Lib.hid ⟨hp3, hown3, hcur, (hO1.mono (fun _ _ h => .inr h)).trans hO2 (fun _ _ h => .inl h), hfr⟩
    have HRS : Hid (Rd 1 w3 (some ⟨b2, i, none⟩) (N - i) (c2 - i) ((U (L ++ [0])).drop i)) := Lib.hid (by
      have := hown3.rd.drop (k := i) (by omega)
      rw [Nat.mul_one, Nat.zero_add] at this
      exact this)
    have HFIT : Hid (i + 1 + (N - (i + 1)) ≤ cur.size) := Lib.hid (by have := HNN.out; omega)
    have g1 : ¬ c2 = i + 1 := by omega
    have g2 : ¬ c2 = i := by omega
    have g3 : (i : Int) + 1 ≤ (c2 : Int) := by omega
    have g4 : (i : Int) ≤ (c2 : Int) := by omega
    have g5 : IntKind.i64.wrap ((i : Int) + 1) = (i : Int) + 1 := IntWalk.i64_in _ (by omega)
    have g6 : ((i : Int) + 1).toNat = i + 1 := by omega
    have g7 : (i : Int) + 1 ≤ (N : Int) := by omega
    have g8 : (i : Int) ≤ (N : Int) := by omega
    have g9 : (0 : Int) ≤ (i : Int) + 1 := by omega
    have HK : Hid (n - i = min (N - i) (N - (i + 1))) := Lib.hid (by have := HNN.out; omega)
    clear hG hO1 hp2 d0 hO2 hown3 hcur hcs hfr hn2 hp3
    go_upto_region 3 with fail
    rw [← hw3]
    clear hw3 f0 d2
    refine wp_region_still_tail 11 (by kernel_rfl) (by kernel_rfl) ?_
    simp only [List.take_succ_cons, List.take_zero, List.drop_succ_cons, List.drop_zero]
    repeat still_step
    refine wpStill_nil ?_
    refine wpList_copy (n - i) rfl _ _ _ _ rfl slBl rfl HW3.out.2.2.1 rfl (HRS.out.of_heap rfl) HK.out HFIT.out ?_
    intro w5 hw5 ho5
    have hO5 : Only (fun j => j = b2) w3 w5 := ⟨ho5.os, ho5.tape, ho5.output, ho5.size, ho5.block⟩
    have hown5 := own_shift (m := N - (i + 1)) HNN.out HW3.out.2.1 HP.out.2.2.2.1 hin' HW3.out.2.2.1 (by have := HNN.out; omega) (by rw [show N - (i + 1) = n - i by have := HNN.out; omega]; exact hw5)
    have hp5 := hO5.obj HW3.out.1 (fun e => hb2p e.symm)
    have d5 : w5.cell? ⟨p, o, none⟩ = some (.slice (some ⟨b2, 0, none⟩) N c2) := block_cell hp5 (by simp [hol])
    have f5 : w5.frozen? ⟨b2, i, none⟩ = false := hown5.frozen rfl i
    obtain ⟨_, q5, _, hc5⟩ := hown5.at (by omega)
    cases q5
    have g5' := hc5.at i (by rw [hown5.len]; omega)
    rw [Nat.zero_add] at g5'
    generalize (U ((L ++ [0]).take (i + 1) ++ L.drop i))[i]'(by rw [hown5.len]; omega) = z5 at g5'
    have HFIN : Hid (RowP p o 79 cs t (some ⟨b, 0, none⟩) (ins L i 0) (.tuple #[]) w (.returned (.tuple #[])) (w5.setCell ⟨b2, i, none⟩ (.int .u64 0))) := Lib.hid (by
      have hO6 : Only (fun k => k = b2) w5 (w5.setCell ⟨b2, i, none⟩ (.int .u64 0)) := (Only.refl _ _).setCell _ _ (fun _ => rfl)
      have hl : (ins L i 0).length = N := by rw [ins_len, HP.out.2.2.2.1]; exact HNN.out
      refine ⟨some ⟨b2, 0, none⟩, c2, rfl, ?_, ?_, ?_, HW3.out.2.2.2.2⟩
      · rw [hl]; exact hO6.obj hp5 (fun e => hb2p e.symm)
      · rw [hl]
        have := hown5.set rfl i (.int .u64 0) rfl (by omega)
        have e2 : (U ((L ++ [0]).take (i + 1) ++ L.drop i)).set i (.int .u64 0) = U (ins L i 0) := by
          rw [← shift_ins L i 0 0 (by rw [HP.out.2.2.2.1]; exact hin')]; simp only [U, List.map_set]; rfl
        rw [e2] at this
        exact this
      · exact (HW3.out.2.2.2.1.trans hO5 (fun k hk e => by
          subst e
          rcases HW3.out.2.2.2.2 k rfl with h1 | h1
          · exact .inr h1
          · omega)).trans hO6 (fun k hk e => by
          subst e
          rcases HW3.out.2.2.2.2 k rfl with h1 | h1
          · exact .inr h1
          · omega))
    clear hw5 ho5 hO5 hown5 hp5 hc5
    go_wp2_with fail
    go_end0
    exact HFIN.out
end
end Go.Proofs.Ytacjkbljokjdkaa.ba

/-
  What the proofs of this claim share, part 8 of 8: small laws and walks of the functions that it reaches.
-/
import Derived.Test.YtacjkbljokjdkaaGreatMG
namespace Go.Proofs.YtacjkbljokjdkaaGreat.ba
open Go.RowKit Go.Proofs.YtacjkbljokjdkaaGreat.base Go.Proofs.YtacjkbljokjdkaaGreat.heap Go.Proofs.YtacjkbljokjdkaaGreat.rows Go.Proofs.YtacjkbljokjdkaaGreat.bit Go.Proofs.YtacjkbljokjdkaaGreat.bs
set_option linter.unusedVariables false
theorem slIdx : SliceOf Tryz.prog 92 34 1 8 := SliceOf.mk (z := .int .u64 0) Tryz.underlying92 (by kernel_rfl) rfl
/-- a number is put in at a place -/
def ins (l : List Nat) (i x : Nat) : List Nat := l.take i ++ x :: l.drop i
theorem ins_len (l : List Nat) (i x : Nat) : (ins l i x).length = l.length + 1 := by
  unfold ins
  rw [List.length_append, List.length_cons, List.length_take, List.length_drop]; omega
theorem ins_end (l : List Nat) (x : Nat) : ins l l.length x = l ++ [x] := by unfold ins; simp
theorem put_ins {l : List Nat} {x : Nat} (h : ¬ x ∈ l) : put l x = ins l (at_ l x) x := by unfold put ins; rw [if_neg h]
theorem shift_ins (l : List Nat) (i x z : Nat) (h : i < l.length) : ((l ++ [z]).take (i + 1) ++ l.drop i).set i x = ins l i x := by
  have h1 : (l ++ [z]).take (i + 1) = l.take i ++ [l[i]] := by
    rw [List.take_append_of_le_length (by omega), List.take_succ_eq_append_getElem h]
  have h2 : (l.take i).length = i := by rw [List.length_take]; omega
  rw [h1, List.append_assoc, List.set_append_right _ _ (by omega), h2, Nat.sub_self]
  rfl
/-- the row behind a field has turned -/
def RowP (p o : Nat) (e : Nat) (cs : Array Value) (t : TypeId) (a : Option Addr) (L : List Nat) (v : Value) (w : World) (en : Ending) (w' : World) : Prop :=
  ∃ a' c', en = .returned v ∧ w'.heap[p]? = some (.cells (cs.setIfInBounds o (.slice a' L.length c')) t (0, 0)) ∧ Own e 1 w' a' L.length c' (U L) ∧ Only (fun k => k = p ∨ At a k) w w' ∧ (∀ k, At a' k → At a k ∨ w.heap.size ≤ k)
theorem own_shift {e : Nat} {w w' : World} {g n N cap i m : Nat} {L : List Nat} {z : Nat} {cur : Array Value} (hN : n + 1 = N) (h : Own e 1 w (some ⟨g, 0, none⟩) N cap (U (L ++ [z]))) (hL : L.length = n) (hi : i < n) (hb : w.heap[g]? = some (.cells cur e (0, 0)))
    (hm : m = n - i) (hw : w'.heap[g]? = some (.cells (cur.toList.take (i + 1) ++ ((U (L ++ [z])).drop i).take m ++ cur.toList.drop (i + 1 + m)).toArray e (0, 0))) : Own e 1 w' (some ⟨g, 0, none⟩) N cap (U ((L ++ [z]).take (i + 1) ++ L.drop i)) := by
  have h4 : ((U (L ++ [z])).drop i).take m = U (L.drop i) := by
    have e1 : (U (L ++ [z])).drop i = U (L.drop i ++ [z]) := by
      have : (L ++ [z]).drop i = L.drop i ++ [z] := List.drop_append_of_le_length (by omega)
      unfold U; rw [← List.map_drop, this]
    have e2 : (L.drop i ++ [z]).take m = L.drop i := by
      have hl : (L.drop i).length = m := by rw [List.length_drop]; omega
      rw [← hl]; exact List.take_left
    rw [e1]
    have : (U (L.drop i ++ [z])).take m = U ((L.drop i ++ [z]).take m) := by unfold U; rw [List.map_take]
    rw [this, e2]
  rw [h4] at hw
  have := Own.over h hb hw (by rw [U_len, List.length_drop]; omega) (by omega) (U_one _)
  have e3 : (U (L ++ [z])).take (i + 1) ++ U (L.drop i) = U ((L ++ [z]).take (i + 1) ++ L.drop i) := by simp only [U, List.map_append, List.map_take]
  rw [e3] at this
  exact this
theorem set_same {cs : Array Value} {o : Nat} {v : Value} (h : cs[o]? = some v) : cs.setIfInBounds o v = cs := by
  apply Array.ext_getElem?
  intro i
  rw [Array.getElem?_setIfInBounds]
  have h1 := (Array.getElem?_eq_some_iff.1 h).1
  split
  · rename_i e; subst e; exact h.symm
  · rfl
section
variable {w : World} {p o n c : Nat} {cs : Array Value} {t : TypeId} {a : Option Addr} {L : List Nat}
set_option maxRecDepth 100000 in
set_option maxHeartbeats 1600000 in
theorem insertU (hp : w.heap[p]? = some (.cells cs t (0, 0))) (ho : cs[o]? = some (.slice a n c)) (h : Own 34 1 w a n c (U L)) (hL : L.length = n) (hs : Asc L) (hna : ¬ At a p) (x : Nat) (hn : n ≤ 1000) :
    Calls Tryz.prog 122 #[.pointer (some ⟨p, o, none⟩), .int .u64 (x : Int)] w (RowP p o 34 cs t a (put L x) (.tuple #[.int .i64 (at_ L x : Nat), .bool (!decide (x ∈ L))]) w) := by
  have HS := Lib.hid (searchU (w := w) ⟨h.rd, by rw [hL]⟩ hs x (by omega))
  have hal := at_le L x
  rw [hL] at hal
  have c0 : w.cell? ⟨p, o, none⟩ = some (.slice a n c) := block_cell hp ho
  have hbd := h.bound
  have HP := Lib.hid (And.intro hp (And.intro ho (And.intro h (And.intro hL hna))))
  have hpl := lt_of_heap hp
  have hpu := put_ins (l := L) (x := x)
  have hmm := mem_at hs (k := x)
  obtain ⟨i, hi⟩ : ∃ i, at_ L x = i := ⟨_, rfl⟩
  have hbe := at_below L x
  rw [hi] at hal hmm hbe hpu HS ⊢
  by_cases hin : i = n
  · subst hin
    have hx : ¬ x ∈ L := fun e => by
      have := hmm.1 e
      rw [List.getElem?_eq_none (by omega)] at this; cases this
    rw [hpu hx]
    have HX : Hid (decide (x ∈ L) = false) := Lib.hid (by simp [hx])
    have hd := HX.out
    rw [hd, ← hL, ins_end]
    rw [hL]
    clear hp ho h hL hs hna hpu hmm hbe hi hx hd
    go_enter Tryz.func122, Tryz.ntmps122
    go_wp2_with (go_at_call 118; refine HS.out.mono ?_)
    rintro e w1 ⟨rfl, hS⟩
    have d0 : w1.cell? ⟨p, o, none⟩ = some (.slice a i c) := (hS.cell (p := ⟨p, o, none⟩) hpl id).trans c0
    have HS1 := Lib.hid hS
    clear hS c0 HS
    go_wp2_with (at_builtin; refine wpList_append (i + 1) (U L ++ U [x]) rfl _ _ _ _ rfl slIdx rfl ((HP.out.2.2.1.keep HS1.out (fun _ _ => id)).keep (S := fun _ => False) (by repeat (first | exact Only.refl _ _ | apply Only.alloc | apply Only.drew)) (fun _ _ => id)) rfl (Src.row (size := 1) (cs := #[.int .u64 (x : Int)]) (t := 34) (fr := (0, 0)) Tryz.underlying92 (by exact heap_alloc_new _ _) 1 1 rfl (by intro u hu; simp at hu; subst hu; rfl)) rfl rfl (by unfold maxLen; omega) (by omega) ?_)
    intro a2 c2 w2 hG
    have hO1 : Only (At a) w w2 := (HS1.out.mono (fun _ _ f => f.elim)).trans ((((Only.refl (At a) w1).alloc _)).trans hG.only (fun _ _ h => h)) (fun _ _ h => h)
    have hp2 := hO1.obj HP.out.1 HP.out.2.2.2.2
    have f0 : w2.frozen? ⟨p, o, none⟩ = false := block_free hp2
    have d1 : w2.cell? ⟨p, o, none⟩ = some (.slice a i c) := block_cell hp2 HP.out.2.1
    have HFIN : Hid (RowP p o 34 cs t a (L ++ [x]) (.tuple #[.int .i64 (i : Int), .bool true]) w (.returned (.tuple #[.int .i64 (i : Int), .bool true])) (w2.setCell ⟨p, o, none⟩ (.slice a2 (i + 1) c2))) := Lib.hid (by
      have hO2 : Only (fun k => k = p) w2 (w2.setCell ⟨p, o, none⟩ (.slice a2 (i + 1) c2)) := (Only.refl _ _).setCell _ _ (fun _ => rfl)
      have hl : (L ++ [x]).length = i + 1 := by rw [List.length_append, HP.out.2.2.2.1]; rfl
      have hfr : ∀ k, At a2 k → At a k ∨ w.heap.size ≤ k := fun k hk => (hG.fresh k hk).imp id (fun h => by have := HS1.out.size; simp at h; omega)
      refine ⟨a2, c2, rfl, by rw [hl]; exact setCell_heap hp2 o _, ?_, (hO1.mono (fun _ _ h => .inr h)).trans hO2 (fun _ _ h => .inl h), hfr⟩
      rw [hl]
      have := hG.own.keep hO2 (fun k hk e => by
        rcases hfr k hk with h1 | h1
        · rw [e] at h1; exact HP.out.2.2.2.2 h1
        · omega)
      have e2 : U L ++ U [x] = U (L ++ [x]) := by simp [U]
      rw [e2] at this
      exact this)
    clear hG hO1 hp2 d0
    go_wp2_with fail
    go_ret2
    exact HFIN.out
  · obtain ⟨y, hy⟩ : ∃ y, L[i]? = some y := ⟨L[i]'(by omega), List.getElem?_eq_getElem _⟩
    rw [hy] at hmm
    by_cases hxy : y = x
    · subst hxy
      have hx : y ∈ L := hmm.2 rfl
      have HPU : Hid (put L y = L) := Lib.hid (by unfold put; rw [if_pos hx])
      have hd : decide (y ∈ L) = true := by simp [hx]
      rw [hd, HPU.out]
      have hne : ((i : Int) == (n : Int)) = false := by rw [beq_eq_false_iff_ne]; omega
      have hi0 : (0 : Int) ≤ (i : Int) := by omega
      have hi1 : (i : Int) < (n : Int) := by omega
      obtain ⟨b, ha, hb, hc⟩ := h.at (by omega)
      have c1 := hc i (.int .u64 (y : Int)) (by unfold U; rw [List.getElem?_map, hy]; rfl)
      rw [Nat.zero_add] at c1
      have hbl := hb
      subst ha
      clear hp ho h hL hs hna hpu hmm hbe hi hx hd hc hy
      go_enter Tryz.func122, Tryz.ntmps122
      go_wp2_with (go_at_call 118; refine HS.out.mono ?_)
      rintro e w1 ⟨rfl, hS⟩
      have d0 : w1.cell? ⟨p, o, none⟩ = some (.slice (some ⟨b, 0, none⟩) n c) := (hS.cell (p := ⟨p, o, none⟩) hpl id).trans c0
      have d1 : w1.cell? ⟨b, i, none⟩ = some (.int .u64 (y : Int)) := (hS.cell (p := ⟨b, i, none⟩) hb id).trans c1
      have HS1 := Lib.hid hS
      clear hS c0 c1 HS
      go_wp2_with fail
      go_ret2
      refine ⟨some ⟨b, 0, none⟩, c, rfl, ?_, ?_, HS1.out.mono (fun _ _ f => f.elim), fun k hk => .inl hk⟩
      · rw [HP.out.2.2.2.1, set_same HP.out.2.1]; exact HS1.out.obj HP.out.1 id
      · rw [HP.out.2.2.2.1]; exact HP.out.2.2.1.keep HS1.out (fun _ _ => id)
    · have hx : ¬ x ∈ L := fun e => hxy (by have := hmm.1 e; exact Option.some.inj this)
      rw [hpu hx]
      have HX : Hid (decide (x ∈ L) = false) := Lib.hid (by simp [hx])
      have hd := HX.out
      rw [hd]
      have hne : ((i : Int) == (n : Int)) = false := by rw [beq_eq_false_iff_ne]; omega
      have hxy' : ((y : Int) == (x : Int)) = false := by rw [beq_eq_false_iff_ne]; omega
      have hi0 : (0 : Int) ≤ (i : Int) := by omega
      have hin' : i < n := by omega
      have hi1 : (i : Int) < (n : Int) := by omega
      obtain ⟨b, ha, hb, hc⟩ := h.at (by omega)
      have c1 := hc i (.int .u64 (y : Int)) (by unfold U; rw [List.getElem?_map, hy]; rfl)
      rw [Nat.zero_add] at c1
      subst ha
      obtain ⟨N, HNN⟩ : ∃ N, Hid (n + 1 = N) := ⟨_, Lib.hid rfl⟩
      have hN0 : N ≤ 1001 ∧ i + 1 < N := by have := HNN.out; omega
      obtain ⟨hN1, hN2⟩ := hN0
      clear hp ho h hL hs hna hpu hmm hbe hi hx hd hc hy hxy
      go_enter Tryz.func122, Tryz.ntmps122
      go_wp2_with (go_at_call 118; refine HS.out.mono ?_)
      rintro e w1 ⟨rfl, hS⟩
      have d0 : w1.cell? ⟨p, o, none⟩ = some (.slice (some ⟨b, 0, none⟩) n c) := (hS.cell (p := ⟨p, o, none⟩) hpl id).trans c0
      have d1 : w1.cell? ⟨b, i, none⟩ = some (.int .u64 (y : Int)) := (hS.cell (p := ⟨b, i, none⟩) hb id).trans c1
      have HS1 := Lib.hid hS
      clear hS c0 c1 HS
      go_wp2_with (at_builtin; refine wpList_append N (U L ++ U [0]) rfl _ _ _ _ rfl slIdx rfl ((HP.out.2.2.1.keep HS1.out (fun _ _ => id)).keep (S := fun _ => False) (by repeat (first | exact Only.refl _ _ | apply Only.alloc | apply Only.drew)) (fun _ _ => id)) rfl (Src.row (size := 1) (cs := #[.int .u64 0]) (t := 34) (fr := (0, 0)) Tryz.underlying92 (by exact heap_alloc_new _ _) 1 1 rfl (by intro u hu; simp at hu; subst hu; rfl)) HNN.out rfl (by unfold maxLen; omega) (by omega) ?_)
      intro a2 c2 w2 hG
      have hO1 : Only (At (some ⟨b, 0, none⟩)) w w2 := (HS1.out.mono (fun _ _ f => f.elim)).trans ((((Only.refl (At (some ⟨b, 0, none⟩)) w1).alloc _)).trans hG.only (fun _ _ h => h)) (fun _ _ h => h)
      have hp2 := hO1.obj HP.out.1 HP.out.2.2.2.2
      have f0 : w2.frozen? ⟨p, o, none⟩ = false := block_free hp2
      have d2 : w2.cell? ⟨p, o, none⟩ = some (.slice (some ⟨b, 0, none⟩) n c) := block_cell hp2 HP.out.2.1
      have hfr : ∀ k, At a2 k → At (some ⟨b, 0, none⟩) k ∨ w.heap.size ≤ k := fun k hk => (hG.fresh k hk).imp id (fun h => by have := HS1.out.size; simp at h; omega)
      have hn2 : a2 ≠ none := fun e => by have := (hG.nil e).1; cases this
      obtain ⟨b2, ha2, hb2l, _⟩ := hG.own.at (by omega)
      subst ha2
      have hb2p : b2 ≠ p := fun e => by
        rcases hfr b2 rfl with h1 | h1
        · exact HP.out.2.2.2.2 (by rw [e] at h1; exact h1)
        · omega
      obtain ⟨w3, hw3⟩ : ∃ w3, w3 = w2.setCell ⟨p, o, none⟩ (.slice (some ⟨b2, 0, none⟩) N c2) := ⟨_, rfl⟩
      have hO2 : Only (fun k => k = p) w2 w3 := by rw [hw3]; exact (Only.refl _ _).setCell _ _ (fun _ => rfl)
      have hp3 : w3.heap[p]? = some (.cells (cs.setIfInBounds o (.slice (some ⟨b2, 0, none⟩) N c2)) t (0, 0)) := by rw [hw3]; exact setCell_heap hp2 o _
      have hol := (Array.getElem?_eq_some_iff.1 HP.out.2.1).1
      have d3 : w3.cell? ⟨p, o, none⟩ = some (.slice (some ⟨b2, 0, none⟩) N c2) := block_cell hp3 (by simp [hol])
      have hown3 : Own 34 1 w3 (some ⟨b2, 0, none⟩) N c2 (U (L ++ [0])) := by
        have := hG.own.keep hO2 (fun k hk e => hb2p (by rw [← e]; exact hk))
        have e2 : U L ++ U [0] = U (L ++ [0]) := by simp [U]
        rw [e2] at this
        exact this
      obtain ⟨cur, hcur, hcs⟩ := own_block hown3
      have hbd2 := hown3.bound
      have HW3 : Hid (w3.heap[p]? = some (.cells (cs.setIfInBounds o (.slice (some ⟨b2, 0, none⟩) N c2)) t (0, 0)) ∧ Own 34 1 w3 (some ⟨b2, 0, none⟩) N c2 (U (L ++ [0])) ∧ w3.heap[b2]? = some (.cells cur 34 (0, 0)) ∧ Only (fun k => k = p ∨ At (some ⟨b, 0, none⟩) k) w w3 ∧ (∀ k, At (some ⟨b2, 0, none⟩) k → At (some ⟨b, 0, none⟩) k ∨ w.heap.size ≤ k)) := Lib.hid ⟨hp3, hown3, hcur, (hO1.mono (fun _ _ h => .inr h)).trans hO2 (fun _ _ h => .inl h), hfr⟩
      have HRS : Hid (Rd 1 w3 (some ⟨b2, i, none⟩) (N - i) (c2 - i) ((U (L ++ [0])).drop i)) := Lib.hid (by
        have := hown3.rd.drop (k := i) (by omega)
        rw [Nat.mul_one, Nat.zero_add] at this
        exact this)
      have HFIT : Hid (i + 1 + (N - (i + 1)) ≤ cur.size) := Lib.hid (by have := HNN.out; omega)
      have g1 : ¬ c2 = i + 1 := by omega
      have g2 : ¬ c2 = i := by omega
      have g3 : (i : Int) + 1 ≤ (c2 : Int) := by omega
      have g4 : (i : Int) ≤ (c2 : Int) := by omega
      have g5 : IntKind.i64.wrap ((i : Int) + 1) = (i : Int) + 1 := IntWalk.i64_in _ (by omega)
      have g6 : ((i : Int) + 1).toNat = i + 1 := by omega
      have g7 : (i : Int) + 1 ≤ (N : Int) := by omega
      have g8 : (i : Int) ≤ (N : Int) := by omega
      have g9 : (0 : Int) ≤ (i : Int) + 1 := by omega
      have HK : Hid (n - i = min (N - i) (N - (i + 1))) := Lib.hid (by have := HNN.out; omega)
      clear hG hO1 hp2 d0 hO2 hown3 hcur hcs hfr hn2 hp3 d1
      go_upto_region 8 with fail
      rw [← hw3]
      clear hw3 f0 d2
      refine wp_region_still_tail 11 (by kernel_rfl) (by kernel_rfl) ?_
      simp only [List.take_succ_cons, List.take_zero, List.drop_succ_cons, List.drop_zero]
      repeat still_step
      refine wpStill_nil ?_
      refine wpList_copy (n - i) rfl _ _ _ _ rfl slIdx rfl HW3.out.2.2.1 rfl (HRS.out.of_heap rfl) HK.out HFIT.out ?_
      intro w5 hw5 ho5
      have hO5 : Only (fun j => j = b2) w3 w5 := ⟨ho5.os, ho5.tape, ho5.output, ho5.size, ho5.block⟩
      have hown5 := own_shift (m := N - (i + 1)) HNN.out HW3.out.2.1 HP.out.2.2.2.1 hin' HW3.out.2.2.1 (by have := HNN.out; omega) (by rw [show N - (i + 1) = n - i by have := HNN.out; omega]; exact hw5)
      have hp5 := hO5.obj HW3.out.1 (fun e => hb2p e.symm)
      have d5 : w5.cell? ⟨p, o, none⟩ = some (.slice (some ⟨b2, 0, none⟩) N c2) := block_cell hp5 (by simp [hol])
      have f5 : w5.frozen? ⟨b2, i, none⟩ = false := hown5.frozen rfl i
      obtain ⟨_, q5, _, hc5⟩ := hown5.at (by omega)
      cases q5
      have g5' := hc5.at i (by rw [hown5.len]; omega)
      rw [Nat.zero_add] at g5'
      generalize (U ((L ++ [0]).take (i + 1) ++ L.drop i))[i]'(by rw [hown5.len]; omega) = z5 at g5'
      have HFIN : Hid (RowP p o 34 cs t (some ⟨b, 0, none⟩) (ins L i x) (.tuple #[.int .i64 (i : Int), .bool true]) w (.returned (.tuple #[.int .i64 (i : Int), .bool true])) (w5.setCell ⟨b2, i, none⟩ (.int .u64 (x : Int)))) := Lib.hid (by
        have hO6 : Only (fun k => k = b2) w5 (w5.setCell ⟨b2, i, none⟩ (.int .u64 (x : Int))) := (Only.refl _ _).setCell _ _ (fun _ => rfl)
        have hl : (ins L i x).length = N := by rw [ins_len, HP.out.2.2.2.1]; exact HNN.out
        refine ⟨some ⟨b2, 0, none⟩, c2, rfl, ?_, ?_, ?_, HW3.out.2.2.2.2⟩
        · rw [hl]; exact hO6.obj hp5 (fun e => hb2p e.symm)
        · rw [hl]
          have := hown5.set rfl i (.int .u64 (x : Int)) rfl (by omega)
          have e2 : (U ((L ++ [0]).take (i + 1) ++ L.drop i)).set i (.int .u64 (x : Int)) = U (ins L i x) := by
            rw [← shift_ins L i x 0 (by rw [HP.out.2.2.2.1]; exact hin')]; simp only [U, List.map_set]
          rw [e2] at this
          exact this
        · exact (HW3.out.2.2.2.1.trans hO5 (fun k hk e => by
            subst e
            rcases HW3.out.2.2.2.2 k rfl with h1 | h1
            · exact .inr h1
            · omega)).trans hO6 (fun k hk e => by
            subst e
            rcases HW3.out.2.2.2.2 k rfl with h1 | h1
            · exact .inr h1
            · omega))
      clear hw5 ho5 hO5 hown5 hp5 hc5
      go_wp2_with fail
      go_ret2
      exact HFIN.out
set_option maxRecDepth 100000 in
set_option maxHeartbeats 1600000 in
theorem insertB (hp : w.heap[p]? = some (.cells cs t (0, 0))) (ho : cs[o]? = some (.slice a n c)) (h : Own 74 1 w a n c (U L)) (hL : L.length = n) (hna : ¬ At a p) (i : Nat) (hal : i ≤ n) (hn : n ≤ 1000) :
    Calls Tryz.prog 123 #[.pointer (some ⟨p, o, none⟩), .int .i64 (i : Int)] w (RowP p o 74 cs t a (ins L i 0) (.tuple #[]) w) := by
  have c0 : w.cell? ⟨p, o, none⟩ = some (.slice a n c) := block_cell hp ho
  have hbd := h.bound
  have HP := Lib.hid (And.intro hp (And.intro ho (And.intro h (And.intro hL hna))))
  have hpl := lt_of_heap hp
  have HS1 : Hid (Same w w) := Lib.hid (Only.refl _ _)
  by_cases hin : i = n
  · subst hin
    rw [← hL, ins_end]
    rw [hL]
    have d0 := c0
    clear hp ho h hL hna c0
    go_enter Tryz.func123, Tryz.ntmps123
    go_wp2_with (at_builtin; refine wpList_append (i + 1) (U L ++ U [0]) rfl _ _ _ _ rfl slBl rfl ((HP.out.2.2.1.keep HS1.out (fun _ _ => id)).keep (S := fun _ => False) (by repeat (first | exact Only.refl _ _ | apply Only.alloc | apply Only.drew)) (fun _ _ => id)) rfl (Src.row (size := 1) (cs := #[.int .u64 0]) (t := 74) (fr := (0, 0)) Tryz.underlying91 (by exact heap_alloc_new _ _) 1 1 rfl (by intro u hu; simp at hu; subst hu; rfl)) rfl rfl (by unfold maxLen; omega) (by omega) ?_)
    intro a2 c2 w2 hG
    have hO1 : Only (At a) w w2 := (HS1.out.mono (fun _ _ f => f.elim)).trans ((((Only.refl (At a) w).alloc _)).trans hG.only (fun _ _ h => h)) (fun _ _ h => h)
    have hp2 := hO1.obj HP.out.1 HP.out.2.2.2.2
    have f0 : w2.frozen? ⟨p, o, none⟩ = false := block_free hp2
    have d1 : w2.cell? ⟨p, o, none⟩ = some (.slice a i c) := block_cell hp2 HP.out.2.1
    have HFIN : Hid (RowP p o 74 cs t a (L ++ [0]) (.tuple #[]) w (.returned (.tuple #[])) (w2.setCell ⟨p, o, none⟩ (.slice a2 (i + 1) c2))) := Lib.hid (by
      have hO2 : Only (fun k => k = p) w2 (w2.setCell ⟨p, o, none⟩ (.slice a2 (i + 1) c2)) := (Only.refl _ _).setCell _ _ (fun _ => rfl)
      have hl : (L ++ [0]).length = i + 1 := by rw [List.length_append, HP.out.2.2.2.1]; rfl
      have hfr : ∀ k, At a2 k → At a k ∨ w.heap.size ≤ k := fun k hk => (hG.fresh k hk).imp id (fun h => by have := HS1.out.size; simp at h; omega)
      refine ⟨a2, c2, rfl, by rw [hl]; exact setCell_heap hp2 o _, ?_, (hO1.mono (fun _ _ h => .inr h)).trans hO2 (fun _ _ h => .inl h), hfr⟩
      rw [hl]
      have := hG.own.keep hO2 (fun k hk e => by
        rcases hfr k hk with h1 | h1
        · rw [e] at h1; exact HP.out.2.2.2.2 h1
        · omega)
      have e2 : U L ++ U [0] = U (L ++ [0]) := by simp [U]
      rw [e2] at this
      exact this)
    clear hG hO1 hp2 d0
    go_wp2_with fail
    refine bodyPost_ret (results_none rfl _ _ _) rfl ?_
    exact HFIN.out
  · have hne : ((i : Int) == (n : Int)) = false := by rw [beq_eq_false_iff_ne]; omega
    have hi0 : (0 : Int) ≤ (i : Int) := by omega
    have hin' : i < n := by omega
    have hi1 : (i : Int) < (n : Int) := by omega
    obtain ⟨b, ha, hb, hc⟩ := h.at (by omega)
    subst ha
    obtain ⟨N, HNN⟩ : ∃ N, Hid (n + 1 = N) := ⟨_, Lib.hid rfl⟩
    have hN0 : N ≤ 1001 ∧ i + 1 < N := by have := HNN.out; omega
    obtain ⟨hN1, hN2⟩ := hN0
    have d0 := c0
    clear hp ho h hL hna c0 hc
    go_enter Tryz.func123, Tryz.ntmps123
    go_wp2_with (at_builtin; refine wpList_append N (U L ++ U [0]) rfl _ _ _ _ rfl slBl rfl ((HP.out.2.2.1.keep HS1.out (fun _ _ => id)).keep (S := fun _ => False) (by repeat (first | exact Only.refl _ _ | apply Only.alloc | apply Only.drew)) (fun _ _ => id)) rfl (Src.row (size := 1) (cs := #[.int .u64 0]) (t := 74) (fr := (0, 0)) Tryz.underlying91 (by exact heap_alloc_new _ _) 1 1 rfl (by intro u hu; simp at hu; subst hu; rfl)) HNN.out rfl (by unfold maxLen; omega) (by omega) ?_)
    intro a2 c2 w2 hG
    have hO1 : Only (At (some ⟨b, 0, none⟩)) w w2 := (HS1.out.mono (fun _ _ f => f.elim)).trans ((((Only.refl (At (some ⟨b, 0, none⟩)) w).alloc _)).trans hG.only (fun _ _ h => h)) (fun _ _ h => h)
    have hp2 := hO1.obj HP.out.1 HP.out.2.2.2.2
    have f0 : w2.frozen? ⟨p, o, none⟩ = false := block_free hp2
    have d2 : w2.cell? ⟨p, o, none⟩ = some (.slice (some ⟨b, 0, none⟩) n c) := block_cell hp2 HP.out.2.1
    have hfr : ∀ k, At a2 k → At (some ⟨b, 0, none⟩) k ∨ w.heap.size ≤ k := fun k hk => (hG.fresh k hk).imp id (fun h => by have := HS1.out.size; simp at h; omega)
    have hn2 : a2 ≠ none := fun e => by have := (hG.nil e).1; cases this
    obtain ⟨b2, ha2, hb2l, _⟩ := hG.own.at (by omega)
    subst ha2
    have hb2p : b2 ≠ p := fun e => by
      rcases hfr b2 rfl with h1 | h1
      · exact HP.out.2.2.2.2 (by rw [e] at h1; exact h1)
      · omega
    obtain ⟨w3, hw3⟩ : ∃ w3, w3 = w2.setCell ⟨p, o, none⟩ (.slice (some ⟨b2, 0, none⟩) N c2) := ⟨_, rfl⟩
    have hO2 : Only (fun k => k = p) w2 w3 := by rw [hw3]; exact (Only.refl _ _).setCell _ _ (fun _ => rfl)
    have hp3 : w3.heap[p]? = some (.cells (cs.setIfInBounds o (.slice (some ⟨b2, 0, none⟩) N c2)) t (0, 0)) := by rw [hw3]; exact setCell_heap hp2 o _
    have hol := (Array.getElem?_eq_some_iff.1 HP.out.2.1).1
    have d3 : w3.cell? ⟨p, o, none⟩ = some (.slice (some ⟨b2, 0, none⟩) N c2) := block_cell hp3 (by simp [hol])
    have hown3 : Own 74 1 w3 (some ⟨b2, 0, none⟩) N c2 (U (L ++ [0])) := by
      have := hG.own.keep hO2 (fun k hk e => hb2p (by rw [← e]; exact hk))
      have e2 : U L ++ U [0] = U (L ++ [0]) := by simp [U]
      rw [e2] at this
      exact this
    obtain ⟨cur, hcur, hcs⟩ := own_block hown3
    have hbd2 := hown3.bound
    have HW3 : Hid (w3.heap[p]? = some (.cells (cs.setIfInBounds o (.slice (some ⟨b2, 0, none⟩) N c2)) t (0, 0)) ∧ Own 74 1 w3 (some ⟨b2, 0, none⟩) N c2 (U (L ++ [0])) ∧ w3.heap[b2]? = some (.cells cur 74 (0, 0)) ∧ Only (fun k => k = p ∨ At (some ⟨b, 0, none⟩) k) w w3 ∧ (∀ k, At (some ⟨b2, 0, none⟩) k → At (some ⟨b, 0, none⟩) k ∨ w.heap.size ≤ k)) := Lib.hid ⟨hp3, hown3, hcur, (hO1.mono (fun _ _ h => .inr h)).trans hO2 (fun _ _ h => .inl h), hfr⟩
    have HRS : Hid (Rd 1 w3 (some ⟨b2, i, none⟩) (N - i) (c2 - i) ((U (L ++ [0])).drop i)) := Lib.hid (by
      have := hown3.rd.drop (k := i) (by omega)
      rw [Nat.mul_one, Nat.zero_add] at this
      exact this)
    have HFIT : Hid (i + 1 + (N - (i + 1)) ≤ cur.size) := Lib.hid (by have := HNN.out; omega)
    have g1 : ¬ c2 = i + 1 := by omega
    have g2 : ¬ c2 = i := by omega
    have g3 : (i : Int) + 1 ≤ (c2 : Int) := by omega
    have g4 : (i : Int) ≤ (c2 : Int) := by omega
    have g5 : IntKind.i64.wrap ((i : Int) + 1) = (i : Int) + 1 := IntWalk.i64_in _ (by omega)
    have g6 : ((i : Int) + 1).toNat = i + 1 := by omega
    have g7 : (i : Int) + 1 ≤ (N : Int) := by omega
    have g8 : (i : Int) ≤ (N : Int) := by omega
    have g9 : (0 : Int) ≤ (i : Int) + 1 := by omega
    have HK : Hid (n - i = min (N - i) (N - (i + 1))) := Lib.hid (by have := HNN.out; omega)
    clear hG hO1 hp2 d0 hO2 hown3 hcur hcs hfr hn2 hp3
    go_upto_region 3 with fail
    rw [← hw3]
    clear hw3 f0 d2
    refine wp_region_still_tail 11 (by kernel_rfl) (by kernel_rfl) ?_
    simp only [List.take_succ_cons, List.take_zero, List.drop_succ_cons, List.drop_zero]
    repeat still_step
    refine wpStill_nil ?_
    refine wpList_copy (n - i) rfl _ _ _ _ rfl slBl rfl HW3.out.2.2.1 rfl (HRS.out.of_heap rfl) HK.out HFIT.out ?_
    intro w5 hw5 ho5
    have hO5 : Only (fun j => j = b2) w3 w5 := ⟨ho5.os, ho5.tape, ho5.output, ho5.size, ho5.block⟩
    have hown5 := own_shift (m := N - (i + 1)) HNN.out HW3.out.2.1 HP.out.2.2.2.1 hin' HW3.out.2.2.1 (by have := HNN.out; omega) (by rw [show N - (i + 1) = n - i by have := HNN.out; omega]; exact hw5)
    have hp5 := hO5.obj HW3.out.1 (fun e => hb2p e.symm)
    have d5 : w5.cell? ⟨p, o, none⟩ = some (.slice (some ⟨b2, 0, none⟩) N c2) := block_cell hp5 (by simp [hol])
    have f5 : w5.frozen? ⟨b2, i, none⟩ = false := hown5.frozen rfl i
    obtain ⟨_, q5, _, hc5⟩ := hown5.at (by omega)
    cases q5
    have g5' := hc5.at i (by rw [hown5.len]; omega)
    rw [Nat.zero_add] at g5'
    generalize (U ((L ++ [0]).take (i + 1) ++ L.drop i))[i]'(by rw [hown5.len]; omega) = z5 at g5'
    have HFIN : Hid (RowP p o 74 cs t (some ⟨b, 0, none⟩) (ins L i 0) (.tuple #[]) w (.returned (.tuple #[])) (w5.setCell ⟨b2, i, none⟩ (.int .u64 0))) := Lib.hid (by
      have hO6 : Only (fun k => k = b2) w5 (w5.setCell ⟨b2, i, none⟩ (.int .u64 0)) := (Only.refl _ _).setCell _ _ (fun _ => rfl)
      have hl : (ins L i 0).length = N := by rw [ins_len, HP.out.2.2.2.1]; exact HNN.out
      refine ⟨some ⟨b2, 0, none⟩, c2, rfl, ?_, ?_, ?_, HW3.out.2.2.2.2⟩
      · rw [hl]; exact hO6.obj hp5 (fun e => hb2p e.symm)
      · rw [hl]
        have := hown5.set rfl i (.int .u64 0) rfl (by omega)
        have e2 : (U ((L ++ [0]).take (i + 1) ++ L.drop i)).set i (.int .u64 0) = U (ins L i 0) := by
          rw [← shift_ins L i 0 0 (by rw [HP.out.2.2.2.1]; exact hin')]; simp only [U, List.map_set]; rfl
        rw [e2] at this
        exact this
      · exact (HW3.out.2.2.2.1.trans hO5 (fun k hk e => by
          subst e
          rcases HW3.out.2.2.2.2 k rfl with h1 | h1
          · exact .inr h1
          · omega)).trans hO6 (fun k hk e => by
          subst e
          rcases HW3.out.2.2.2.2 k rfl with h1 | h1
          · exact .inr h1
          · omega))
    clear hw5 ho5 hO5 hown5 hp5 hc5
    go_wp2_with fail
    go_end0
    exact HFIN.out
end
end Go.Proofs.YtacjkbljokjdkaaGreat.ba
namespace Go.Proofs.YtacjkbljokjdkaaGreat.ba
open Go.RowKit Go.Proofs.YtacjkbljokjdkaaGreat.base Go.Proofs.YtacjkbljokjdkaaGreat.heap Go.Proofs.YtacjkbljokjdkaaGreat.rows Go.Proofs.YtacjkbljokjdkaaGreat.bit Go.Proofs.YtacjkbljokjdkaaGreat.bs
set_option linter.unusedVariables false
/-- in the course of setting: the two rows -/
def SpMid (w w2 : World) (p : Nat) (ab ai : Option Addr) (I B : List Nat) (ab2 : Option Addr) (cb2 : Nat) (ai2 : Option Addr) (ci2 : Nat) : Prop :=
  w2.heap[p]? = some (.cells #[.slice ab2 B.length cb2, .slice ai2 I.length ci2] 94 (0, 0)) ∧ Own 74 1 w2 ab2 B.length cb2 (U B) ∧ Own 34 1 w2 ai2 I.length ci2 (U I) ∧
    ¬ At ab2 p ∧ ¬ At ai2 p ∧ (∀ k, At ab2 k → ¬ At ai2 k) ∧ Only (Fs p ab ai) w w2 ∧ ∀ k, Fs p ab2 ai2 k → Fs p ab ai k ∨ w.heap.size ≤ k
section
variable {w w1 w2 : World} {p cb ci : Nat} {ab ai ab2 ai2 : Option Addr} {cb2 ci2 : Nat} {I B : List Nat}
theorem SpMid.idx (h : SpMid w w1 p ab ai I B ab2 cb2 ai2 ci2) {I' : List Nat} {v : Value} {e : Ending} (hr : RowP p 1 34 #[.slice ab2 B.length cb2, .slice ai2 I.length ci2] 94 ai2 I' v w1 e w2) :
    e = .returned v ∧ ∃ ai3 ci3, SpMid w w2 p ab ai I' B ab2 cb2 ai3 ci3 := by
  obtain ⟨h1, h2, h3, h4, h5, h6, h7, h8⟩ := h
  obtain ⟨a', c', rfl, g1, g2, g3, g4⟩ := hr
  have hpl := lt_of_heap h1
  have hab : ∀ k, At ab2 k → ¬ (k = p ∨ At ai2 k) := fun k hk h => h.elim (fun e => h4 (by rw [← e]; exact hk)) (fun e => h6 k hk e)
  have hal := h2.lt
  refine ⟨rfl, a', c', g1, h2.keep g3 hab, g2, h4, fun e => ?_, fun k hk e => ?_, h7.trans g3 (fun k hk h => ?_), fun k hk => ?_⟩
  · rcases g4 p e with h | h
    · exact h5 h
    · omega
  · rcases g4 k e with h | h
    · exact h6 k hk h
    · have := hal k hk; omega
  · rcases h with h | h
    · exact .inl h
    · rcases h8 k (.inr (.inr h)) with h9 | h9
      · exact h9
      · omega
  · rcases hk with hk | hk | hk
    · exact .inl (.inl hk)
    · exact h8 k (.inr (.inl hk))
    · rcases g4 k hk with h | h
      · exact h8 k (.inr (.inr h))
      · have := h7.size; exact .inr (by omega)
theorem SpMid.blk (h : SpMid w w1 p ab ai I B ab2 cb2 ai2 ci2) {B' : List Nat} {v : Value} {e : Ending} (hr : RowP p 0 74 #[.slice ab2 B.length cb2, .slice ai2 I.length ci2] 94 ab2 B' v w1 e w2) :
    e = .returned v ∧ ∃ ab3 cb3, SpMid w w2 p ab ai I B' ab3 cb3 ai2 ci2 := by
  obtain ⟨h1, h2, h3, h4, h5, h6, h7, h8⟩ := h
  obtain ⟨a', c', rfl, g1, g2, g3, g4⟩ := hr
  have hpl := lt_of_heap h1
  have hab : ∀ k, At ai2 k → ¬ (k = p ∨ At ab2 k) := fun k hk h => h.elim (fun e => h5 (by rw [← e]; exact hk)) (fun e => h6 k e hk)
  have hal := h3.lt
  refine ⟨rfl, a', c', g1, g2, h3.keep g3 hab, fun e => ?_, h5, fun k hk e => ?_, h7.trans g3 (fun k hk h => ?_), fun k hk => ?_⟩
  · rcases g4 p e with h | h
    · exact h4 h
    · omega
  · rcases g4 k hk with h | h
    · exact h6 k h e
    · have := hal k e; omega
  · rcases h with h | h
    · exact .inl h
    · rcases h8 k (.inr (.inl h)) with h9 | h9
      · exact h9
      · omega
  · rcases hk with hk | hk | hk
    · exact .inl (.inl hk)
    · rcases g4 k hk with h | h
      · exact h8 k (.inr (.inl h))
      · have := h7.size; exact .inr (by omega)
    · exact h8 k (.inr (.inr hk))
/-- a word is stored -/
theorem SpMid.put (h : SpMid w w1 p ab ai I B ab2 cb2 ai2 ci2) {b i x : Nat} (ha : ab2 = some ⟨b, 0, none⟩) (hi : i < B.length) : SpMid w (w1.setCell ⟨b, i, none⟩ (.int .u64 (x : Int))) p ab ai I (B.set i x) ab2 cb2 ai2 ci2 := by
  obtain ⟨h1, h2, h3, h4, h5, h6, h7, h8⟩ := h
  have hO : Only (fun k => k = b) w1 (w1.setCell ⟨b, i, none⟩ (.int .u64 (x : Int))) := (Only.refl _ _).setCell _ _ (fun _ => rfl)
  have hb : At ab2 b := by rw [ha]; exact rfl
  unfold SpMid
  rw [List.length_set]
  refine ⟨hO.obj h1 (fun e => h4 (by rw [e]; exact hb)), ?_, h3.keep hO (fun k hk e => h6 b hb (by rw [← e]; exact hk)), h4, h5, h6, h7.trans hO (fun k hk e => ?_), h8⟩
  · rw [← U_set]; exact h2.set ha i _ rfl (by omega)
  · subst e
    rcases h8 k (.inr (.inl hb)) with h9 | h9
    · exact h9
    · omega
theorem SpMid.still (h : SpMid w w1 p ab ai I B ab2 cb2 ai2 ci2) (hs : Same w1 w2) : SpMid w w2 p ab ai I B ab2 cb2 ai2 ci2 := by
  obtain ⟨h1, h2, h3, h4, h5, h6, h7, h8⟩ := h
  exact ⟨hs.obj h1 id, h2.keep hs (fun _ _ => id), h3.keep hs (fun _ _ => id), h4, h5, h6, h7.trans hs (fun _ _ f => f.elim), h8⟩
theorem Sp.mid {P : List (Nat × Nat)} (h : Sp w p ab cb ai ci P) : SpMid w w p ab ai (P.map (·.1)) (P.map (·.2)) ab cb ai ci := by
  refine ⟨?_, ?_, ?_, h.nb, h.ni, h.bi, Only.refl _ _, fun k hk => .inl hk⟩
  · rw [List.length_map, List.length_map]; exact h.obj
  · rw [List.length_map]; exact h.blk
  · rw [List.length_map]; exact h.idx
theorem SpMid.sp {P : List (Nat × Nat)} (h : SpMid w w2 p ab ai (P.map (·.1)) (P.map (·.2)) ab2 cb2 ai2 ci2) (hg : Good P) (hl : P.length ≤ 1000000) : Sp w2 p ab2 cb2 ai2 ci2 P := by
  obtain ⟨h1, h2, h3, h4, h5, h6, h7, h8⟩ := h
  rw [List.length_map, List.length_map] at h1
  rw [List.length_map] at h2 h3
  exact ⟨h1, h2, h3, hg.1, hg.2, h4, h5, h6, hl⟩
end
theorem Sp.good {w : World} {p cb ci : Nat} {ab ai : Option Addr} {P : List (Nat × Nat)} (h : Sp w p ab cb ai ci P) : Good P := ⟨h.asc, h.ok⟩
theorem Sp.still {w w' : World} {p cb ci : Nat} {ab ai : Option Addr} {P : List (Nat × Nat)} (h : Sp w p ab cb ai ci P) (hs : Same w w') : Sp w' p ab cb ai ci P := h.keep hs (fun _ _ => id)
def SpM (w w2 : World) (p : Nat) (ab ai : Option Addr) (I B : List Nat) : Prop := ∃ ab2 cb2 ai2 ci2, SpMid w w2 p ab ai I B ab2 cb2 ai2 ci2
/-- the bit is set -/
def SetS_ (w : World) (p : Nat) (ab ai : Option Addr) (PP : List (Nat × Nat)) (e : Ending) (w' : World) : Prop :=
  e = .returned .nilIface ∧ Only (Fs p ab ai) w w' ∧ ∃ ab2 cb2 ai2 ci2, Sp w' p ab2 cb2 ai2 ci2 PP ∧ ∀ j, Fs p ab2 ai2 j → Fs p ab ai j ∨ w.heap.size ≤ j
set_option maxRecDepth 100000 in
set_option maxHeartbeats 1600000 in
theorem setS {w : World} {p cb ci : Nat} {ab ai : Option Addr} {P : List (Nat × Nat)} (h : Sp w p ab cb ai ci P) (hl : P.length ≤ 900) (k : Nat) (hk : k < 1152921504606846976) : Calls Tryz.prog 111 #[.pointer (some ⟨p, 0, none⟩), .int .u64 (k : Int)] w (SetS_ w p ab ai (pput P k)) := by
  have HL64 : Hid (Lt64 k) := Lib.hid (by unfold Lt64; omega)
  have HIW : Hid (∀ wx, Calls Tryz.prog 38 #[.int .u64 (k : Int)] wx fun e w' => e = .returned (.tuple #[.int .u64 ((k / 64 : Nat) : Int), .int .u64 ((k % 64 : Nat) : Int)]) ∧ wx = w') := Lib.hid (fun wx => (indexW k HL64.out wx).mono fun e w' h => ⟨h.1, h.2.symm⟩)
  have HG : Hid (Good (pput P k) ∧ (pput P k).length ≤ 1000000) := Lib.hid ⟨pput_good h.good (by omega), by have := pput_len P h.asc k; omega⟩
  have HM := Lib.hid h.mid
  have HIX : Hid (Calls Tryz.prog 122 #[.pointer (some ⟨p, 1, none⟩), .int .u64 ((k / 64 : Nat) : Int)] w (RowP p 1 34 #[.slice ab (P.map (·.2)).length cb, .slice ai (P.map (·.1)).length ci] 94 ai (put (P.map (·.1)) (k / 64)) (.tuple #[.int .i64 (at_ (P.map (·.1)) (k / 64) : Nat), .bool (!decide (k / 64 ∈ P.map (·.1)))]) w)) := Lib.hid (by
    have hm := h.mid
    exact insertU hm.1 rfl hm.2.2.1 rfl h.asc h.ni (k / 64) (by rw [List.length_map]; omega))
  have HOLD := Lib.hid (pput_old h.asc k)
  have HSND := Lib.hid (pput_snd h.asc k)
  have HFST : Hid ((pput P k).map (·.1) = put (P.map (·.1)) (k / 64)) := Lib.hid (pset_fst P h.asc _ _)
  have HLB : Hid ((P.map (·.2)).length ≤ 900 ∧ at_ (P.map (·.1)) (k / 64) ≤ (P.map (·.2)).length) := Lib.hid ⟨by rw [List.length_map]; exact hl, by have := at_le (P.map (·.1)) (k / 64); rw [List.length_map] at *; exact this⟩
  have hi0 := HLB.out.2
  have hi1 := HLB.out.1
  obtain ⟨i, hi⟩ : ∃ i, at_ (P.map (·.1)) (k / 64) = i := ⟨_, rfl⟩
  have hin : i ≤ 900 := by omega
  rw [hi] at HIX HOLD HSND HLB
  obtain ⟨x, hx⟩ : ∃ x, wd P (k / 64) = x := ⟨_, rfl⟩
  rw [hx] at HOLD HSND
  have HX : Hid (Lt64 x) := Lib.hid (by
    rw [← hx]
    by_cases h0 : wd P (k / 64) = 0
    · rw [h0]; exact lt64_zero
    · exact (h.ok _ (wd_some h0)).1)
  have HIN : Hid (∀ wx, Calls Tryz.prog 84 #[.int .u64 (x : Int), .int .u64 ((k % 64 : Nat) : Int)] wx fun e w' => e = .returned (.int .u64 ((x ||| 2 ^ (k % 64) : Nat) : Int)) ∧ w' = wx) := Lib.hid (fun wx => insertW _ _ HX.out (Nat.mod_lt _ (by omega)) wx)
  generalize pput P k = PP at *
  generalize x ||| 2 ^ (k % 64) = y at *
  generalize k % 64 = r at *
  generalize P.map (·.1) = I0 at *
  generalize P.map (·.2) = B0 at *
  obtain ⟨j, hj⟩ : ∃ j, k / 64 = j := ⟨_, rfl⟩
  rw [hj] at HIW HIX HOLD HSND HFST
  obtain ⟨nb, hnb⟩ : ∃ nb, (!decide (j ∈ I0)) = nb := ⟨_, rfl⟩
  rw [hnb] at HIX
  have HNB := Lib.hid hnb
  clear hi0 hi1 hi hx h hl hj hnb
  go_enter Tryz.func111, Tryz.ntmps111
  go_wp2_with (go_at_call 38; refine (HIW.out _).mono ?_)
  rintro e w' ⟨rfl, rfl⟩
  go_wp2_with (go_at_call 122; refine HIX.out.mono ?_)
  intro e w1 hR
  obtain ⟨rfl, ai3, ci3, hM1⟩ := HM.out.idx hR
  have HM1 := Lib.hid hM1
  clear hR hM1 HIX HM HIW
  obtain ⟨BM, hBM⟩ : ∃ BM, (if j ∈ I0 then B0 else B0.take i ++ 0 :: B0.drop i) = BM := ⟨_, rfl⟩
  rw [hBM] at HOLD HSND
  go_upto_if 22 with fail
  go_cut [23] (fun _ wx => SpM w wx p ab ai (put I0 j) BM)
  case first =>
    cases nb with
    | false =>
      have hm : j ∈ I0 := by simpa using HNB.out
      rw [if_pos hm] at hBM
      subst hBM
      clear hm
      go_wp2_with fail
      go_meet
      exact ⟨_, _, _, _, HM1.out⟩
    | true =>
      have hm : ¬ j ∈ I0 := by simpa using HNB.out
      rw [if_neg hm] at hBM
      have HIB : Hid (Calls Tryz.prog 123 #[.pointer (some ⟨p, 0, none⟩), .int .i64 (i : Int)] w1 (RowP p 0 74 #[.slice ab B0.length cb, .slice ai3 (put I0 j).length ci3] 94 ab (ins B0 i 0) (.tuple #[]) w1)) :=
        Lib.hid (insertB HM1.out.1 rfl HM1.out.2.1 rfl HM1.out.2.2.2.1 i HLB.out.2 (by have := HLB.out.1; omega))
      have HBM : Hid (ins B0 i 0 = BM) := Lib.hid hBM
      clear hm hBM
      go_wp2_with (go_at_call 123; refine HIB.out.mono ?_)
      intro e w2 hR
      obtain ⟨rfl, ab3, cb3, hM2⟩ := HM1.out.blk hR
      rw [HBM.out] at hM2
      have HM2 := Lib.hid hM2
      clear hR hM2 HIB HM1
      go_wp2_with fail
      go_meet
      exact ⟨_, _, _, _, HM2.out⟩
  case rest =>
    obtain ⟨ab3, cb3, ai4, ci4, hM⟩ := hcut
    have HM := Lib.hid hM
    obtain ⟨w2, hw2⟩ : ∃ w2, w2 = wc := ⟨_, rfl⟩
    rw [← hw2] at HM hM ⊢
    have hil : i < BM.length := (List.getElem?_eq_some_iff.1 HOLD.out).1
    obtain ⟨b, ha, hb, hc⟩ := hM.2.1.at (by omega)
    have c0 : w2.cell? ⟨p, 0, none⟩ = some (.slice ab3 BM.length cb3) := block_cell hM.1 rfl
    have c1 := hc i (.int .u64 (x : Int)) (by unfold U; rw [List.getElem?_map, HOLD.out]; rfl)
    rw [Nat.zero_add] at c1
    have f1 := hM.2.1.frozen ha i
    have HFIN : Hid (∀ w5, Same (w2.setCell ⟨b, i, none⟩ (.int .u64 (y : Int))) w5 → SetS_ w p ab ai PP (.returned .nilIface) w5) := Lib.hid (fun w5 hS => by
      have h1 := (HM.out.put (x := y) ha hil).still hS
      rw [← HSND.out, ← HFST.out] at h1
      exact ⟨rfl, h1.2.2.2.2.2.2.1, ab3, cb3, ai4, ci4, h1.sp HG.out.1 HG.out.2, h1.2.2.2.2.2.2.2⟩)
    subst ha
    obtain ⟨n, hn⟩ : ∃ n, BM.length = n := ⟨_, rfl⟩
    rw [hn] at c0 hil
    have hbd := hM.2.1.bound
    rw [hn] at hbd
    have hi2 : (i : Int) < (n : Int) := by omega
    have hi3 : (0 : Int) ≤ (i : Int) := by omega
    clear hM hc hw2 hBM hn HOLD HSND HFST HLB HM1 HG HM
    go_wp2_with fail
    refine wp_region_still_tail 15 (by kernel_rfl) (by kernel_rfl) ?_
    simp only [List.take_succ_cons, List.take_zero, List.drop_succ_cons, List.drop_zero]
    repeat still_step
    still_call (HIN.out _)
    repeat still_step
    refine wpStill_nil ?_
    go_wp2_with fail
    go_ret
    exact HFIN.out _ (by first | exact Only.refl _ _ | exact (Only.refl _ _).drew)
end Go.Proofs.YtacjkbljokjdkaaGreat.ba
namespace Go.Proofs.YtacjkbljokjdkaaGreat.ba
open Go.RowKit Go.Proofs.YtacjkbljokjdkaaGreat.base Go.Proofs.YtacjkbljokjdkaaGreat.heap Go.Proofs.YtacjkbljokjdkaaGreat.rows Go.Proofs.YtacjkbljokjdkaaGreat.bit Go.Proofs.YtacjkbljokjdkaaGreat.bs
set_option linter.unusedVariables false
theorem pair_bit {P : List (Nat × Nat)} (h : Good P) {l : List Nat} (hr : Rep (wd P) l) {x : Nat × Nat} (hx : x ∈ P) : ∃ k ∈ l, k / 64 = x.1 := by
  obtain ⟨h1, h2, h3⟩ := h.2 x hx
  obtain ⟨t, ht, hh⟩ := high_ex h1 h2
  refine ⟨64 * x.1 + t, ?_, by omega⟩
  rw [hr.2, show (64 * x.1 + t) / 64 = x.1 by omega, show (64 * x.1 + t) % 64 = t by omega, wd_mem h.1 (j := x.1) (b := x.2) hx]
  exact hh.1
theorem pnums_cons (x : Nat × Nat) (P : List (Nat × Nat)) : pnums (x :: P) = wbits (64 * x.1) x.2 64 ++ pnums P := rfl
theorem pnums_ge : ∀ {P : List (Nat × Nat)}, (∀ x ∈ P, Lt64 x.2 ∧ x.2 ≠ 0) → P.length ≤ (pnums P).length
  | [], _ => Nat.le_refl _
  | x :: P, h => by
    rw [pnums_cons, List.length_append, List.length_cons]
    have ih := pnums_ge (P := P) (fun y hy => h y (List.mem_cons_of_mem _ hy))
    obtain ⟨h1, h2⟩ := h x (by simp)
    obtain ⟨t, ht, hh⟩ := high_ex h1 h2
    have : 64 * x.1 + t ∈ wbits (64 * x.1) x.2 64 := wbits_mem.2 ⟨t, ht, hh.1, rfl⟩
    have := List.length_pos_of_mem this
    omega
theorem pnums_le : ∀ (P : List (Nat × Nat)), (pnums P).length ≤ 64 * P.length
  | [] => Nat.le_refl _
  | x :: P => by
    rw [pnums_cons, List.length_append, List.length_cons]
    have := pnums_le P
    have := wbits_len (64 * x.1) x.2 64
    omega
theorem pairs_len {P : List (Nat × Nat)} (h : Good P) {l : List Nat} (hr : Rep (wd P) l) : P.length ≤ l.length ∧ l = pnums P := by
  have e := hr.eq (pnums_rep h.1)
  exact ⟨by rw [e]; exact pnums_ge (fun x hx => ⟨(h.2 x hx).1, (h.2 x hx).2.1⟩), e⟩
theorem pnums_snoc (P : List (Nat × Nat)) (k : Nat) (x : Nat × Nat) (h : P[k]? = some x) : pnums (P.take (k + 1)) = pnums (P.take k) ++ wbits (64 * x.1) x.2 64 := by
  unfold pnums; rw [take_snoc P k x h, List.flatMap_append]; simp
section
variable {w : World} {p cb ci : Nat} {ab ai : Option Addr} {P : List (Nat × Nat)}
/-- all that a walk asks of it -/
theorem Sp.at (h : Sp w p ab cb ai ci P) (h0 : 0 < P.length) : ∃ b i, ab = some ⟨b, 0, none⟩ ∧ ai = some ⟨i, 0, none⟩ ∧ (∀ k x, P[k]? = some x → w.cell? ⟨b, k, none⟩ = some (.int .u64 (x.2 : Int)) ∧ w.cell? ⟨i, k, none⟩ = some (.int .u64 (x.1 : Int))) := by
  obtain ⟨b, ha, hb, hc⟩ := h.blk.at h0
  obtain ⟨i, ha2, hb2, hc2⟩ := h.idx.at h0
  refine ⟨b, i, ha, ha2, fun k x hx => ⟨?_, ?_⟩⟩
  · have := hc k (.int .u64 (x.2 : Int)) (by simp [U, hx])
    rw [Nat.zero_add] at this; exact this
  · have := hc2 k (.int .u64 (x.1 : Int)) (by simp [U, hx])
    rw [Nat.zero_add] at this; exact this
theorem Sp.c0 (h : Sp w p ab cb ai ci P) : w.cell? ⟨p, 0, none⟩ = some (.slice ab P.length cb) := block_cell h.obj rfl
theorem Sp.c1 (h : Sp w p ab cb ai ci P) : w.cell? ⟨p, 1, none⟩ = some (.slice ai P.length ci) := block_cell h.obj rfl
set_option maxRecDepth 100000 in
theorem emptyS (h : Sp w p ab cb ai ci P) : Calls Tryz.prog 107 #[.pointer (some ⟨p, 0, none⟩)] w fun e w' => e = .returned (.bool P.isEmpty) ∧ w = w' := by
  have c1 := h.c1
  have hbd := h.idx.bound
  cases P with
  | nil =>
    clear h
    go_enter Tryz.func107, Tryz.ntmps107
    go_wp2_with fail
    go_ret
    exact ⟨rfl, rfl⟩
  | cons x P =>
    have hz : (((P.length + 1 : Nat) : Int) == 0) = false := by rw [beq_eq_false_iff_ne]; omega
    rw [List.length_cons] at c1 hbd
    generalize P.length + 1 = n at *
    clear h
    go_enter Tryz.func107, Tryz.ntmps107
    go_wp2_with fail
    go_ret
    exact ⟨rfl, rfl⟩
set_option maxRecDepth 100000 in
set_option maxHeartbeats 1600000 in
theorem countS (h : Sp w p ab cb ai ci P) : Calls Tryz.prog 102 #[.pointer (some ⟨p, 0, none⟩)] w fun e w' => e = .returned (.int .i64 ((pnums P).length : Int)) ∧ w = w' := by
  have c0 := h.c0
  have hbd := h.blk.bound
  have hsm := h.sm
  have H := Lib.hid h
  obtain ⟨n, HN⟩ : ∃ n, Hid (P.length = n) := ⟨_, Lib.hid rfl⟩
  rw [HN.out] at c0 hbd hsm
  clear h
  go_enter Tryz.func102, Tryz.ntmps102
  go_wp2_with fail
  go_loop [3, 11] (fun t i => ∃ k z : Nat, k ≤ n ∧ z ≤ 64 * k ∧ i = .int .i64 (k : Int) ∧ t = .int .i64 (z : Int) ∧ Hid ((pnums (P.take k)).length = z)) (fun _ i => n - (intOf i).toNat)
  case atStart => exact ⟨0, 0, Nat.zero_le _, Nat.zero_le _, rfl, rfl, Lib.hid rfl⟩
  case round =>
    obtain ⟨k, z, hk, hz, rfl, rfl, HZ⟩ := hrel
    by_cases hkn : k < n
    · have hkn' : (k : Int) < (n : Int) := by omega
      have hk0 : (0 : Int) ≤ (k : Int) := by omega
      obtain ⟨b, i, hab, hai, hc⟩ := H.out.at (by have := HN.out; omega)
      obtain ⟨x, hx⟩ : ∃ x, P[k]? = some x := ⟨P[k]'(by have := HN.out; omega), List.getElem?_eq_getElem _⟩
      have e0 := (hc k x hx).1
      have hok := H.out.ok x (List.mem_of_getElem? hx)
      have HPC := Lib.hid (onesCount x.2 hok.1 w)
      have HP : Hid ((pnums (P.take (k + 1))).length = z + Go.Proofs.YtacjkbljokjdkaaGreat.pop64.cnt 64 x.2) := Lib.hid (by
        rw [pnums_snoc P k x hx, List.length_append, HZ.out, Go.Proofs.YtacjkbljokjdkaaGreat.pop64.cnt_testBit]
        unfold wbits
        rw [List.length_map])
      have hle : Go.Proofs.YtacjkbljokjdkaaGreat.pop64.cnt 64 x.2 ≤ 64 := Go.Proofs.YtacjkbljokjdkaaGreat.pop64.cnt_le _ _
      generalize Go.Proofs.YtacjkbljokjdkaaGreat.pop64.cnt 64 x.2 = y at *
      obtain ⟨x2, hx2⟩ : ∃ x2, x.2 = x2 := ⟨_, rfl⟩
      rw [hx2] at e0 HPC
      subst hab
      clear hc hx hok hx2
      go_wp2_with fail
      refine HPC.out.mono ?_
      rintro e w1 ⟨rfl, rfl⟩
      go_wp2_with fail
      go_round
      case rel => exact ⟨k + 1, z + y, by omega, by omega, by go_num, by go_num, HP⟩
      case measure => simp [intOf]; omega
    · have hkn' : ¬ (k : Int) < (n : Int) := by omega
      obtain rfl : k = n := by omega
      have HF : Hid ((pnums P).length = z) := Lib.hid (by rw [← HZ.out, List.take_of_length_le (by have := HN.out; omega)])
      go_wp2_with fail
      go_ret
      exact ⟨by rw [HF.out]; rfl, rfl⟩
set_option maxRecDepth 100000 in
set_option maxHeartbeats 1600000 in
theorem numsS (h : Sp w p ab cb ai ci P) (hix : ∀ x ∈ P, x.1 < 18014398509481984) : Calls Tryz.prog 112 #[.pointer (some ⟨p, 0, none⟩)] w (NumsP (pnums P) w) := by
  have c1 := h.c1
  have hbd := h.idx.bound
  have hsm := h.sm
  have H := Lib.hid h
  have HIX := Lib.hid hix
  obtain ⟨n, HN⟩ : ∃ n, Hid (P.length = n) := ⟨_, Lib.hid rfl⟩
  rw [HN.out] at c1 hbd hsm
  clear h hix
  by_cases hn : n = 0
  · subst hn
    have HP : Hid (P = []) := Lib.hid (List.eq_nil_of_length_eq_zero HN.out)
    go_enter Tryz.func112, Tryz.ntmps112
    go_wp2_with fail
    go_ret
    rw [HP.out]
    exact ⟨none, 0, rfl, Own.nil _ _ _, Only.refl _ _, fun k hk => hk.elim⟩
  · have hz : ((n : Int) == 0) = false := by rw [beq_eq_false_iff_ne]; omega
    have hm1 : IntKind.u64.wrap (n : Int) = (n : Int) := by rw [IntKind.wrap_u64]; omega
    have hm2 : IntKind.u64.wrap ((n : Int) * 64) = (n : Int) * 64 := by rw [IntKind.wrap_u64]; omega
    have hm3 : (n : Int) * 64 / 4 = ((16 * n : Nat) : Int) := by omega
    obtain ⟨m, HM⟩ : ∃ m, Hid (16 * n = m) := ⟨_, Lib.hid rfl⟩
    rw [HM.out] at hm3
    have hm : m ≤ 64000000 := by have := HM.out; omega
    have hmk := make0_eq (P := Tryz.prog) (e := 34) (size := 1) (t := 24) (z := .int .u64 0) (bytes := 8) .i64 .u64 Tryz.underlying24 (by kernel_rfl) m (by omega) (by omega)
    have HPL := Lib.hid (lt_of_heap H.out.obj)
    have hc1' : ∀ A B, ((w.alloc A).alloc B).cell? ⟨p, 1, none⟩ = some (.slice ai n ci) := fun A B => ((((Only.refl (fun _ => False) w).alloc A).alloc B).cell (p := ⟨p, 1, none⟩) HPL.out id).trans c1
    have d1 := hc1' (.cells (madeCells #[.int .u64 0] m) 34) (.cells #[.slice (some ⟨w.heap.size, 0, none⟩) 0 m] 24)
    clear hc1'
    go_enter Tryz.func112, Tryz.ntmps112
    go_wp2_with fail
    obtain ⟨g, hg⟩ : ∃ g, w.heap.size = g := ⟨_, rfl⟩
    obtain ⟨vb, hvb⟩ : ∃ vb, w.heap.size + 1 = vb := ⟨_, rfl⟩
    rw [hvb]
    obtain ⟨w2, hw2⟩ : ∃ w2, w2 = (w.alloc (.cells (madeCells #[.int .u64 0] m) 34)).alloc (.cells #[.slice (some ⟨w.heap.size, 0, none⟩) 0 m] 24) := ⟨_, rfl⟩
    have hnv : NV w2 vb (some ⟨g, 0, none⟩) m [] := by
      rw [hw2]
      refine nv_made ?_ ?_ (by omega) (by omega)
      · rw [← hvb, ← hg]; exact heap_alloc_new' _ _ _ (by simp)
      · rw [← hg]; exact new_old w _ _
    have HW2 : Hid (Same w w2 ∧ w.heap.size ≤ g ∧ w.heap.size ≤ vb) := Lib.hid ⟨by rw [hw2]; exact ((Only.refl _ _).alloc _).alloc _, by omega, by omega⟩
    have HI0 : Hid (NVs w2 w2 vb (some ⟨g, 0, none⟩) (some ⟨g, 0, none⟩) m (pnums (P.take 0))) := Lib.hid ⟨hnv, Only.refl _ _, fun k hk => .inl hk⟩
    rw [← hw2] at d1 ⊢
    clear hw2 hnv hmk hz hm1 hm2 hm3 hvb hg d1
    go_loopw [28] (fun i wr => ∃ (k : Nat) (a' : Option Addr) (cap' : Nat), k ≤ n ∧ i = .int .i64 (k : Int) ∧ Hid (NVs w2 wr vb (some ⟨g, 0, none⟩) a' cap' (pnums (P.take k)))) (fun i _ => n - (intOf i).toNat)
    case atStart => exact ⟨0, _, _, Nat.zero_le _, rfl, HI0⟩
    case round =>
      clear HI0
      obtain ⟨k, a', cap', hk, rfl, HI⟩ := hrel
      by_cases hkn : k < n
      · have hkn' : (k : Int) < (n : Int) := by omega
        have hk0 : (0 : Int) ≤ (k : Int) := by omega
        have hspr : Sp wr p ab cb ai ci P := (H.out.still HW2.out.1).keep HI.out.only (fun j hj hf => by
          have h1 := H.out.lt j hj
          have h2 := HW2.out
          rcases hf with e | e
          · omega
          · have : g = j := e
            omega)
        obtain ⟨b, i, hab, hai, hc⟩ := hspr.at (by have := HN.out; omega)
        obtain ⟨x, hx⟩ : ∃ x, P[k]? = some x := ⟨P[k]'(by have := HN.out; omega), List.getElem?_eq_getElem _⟩
        have e0 := (hc k x hx).1
        have e1 := (hc k x hx).2
        have d0 := hspr.c0
        rw [HN.out] at d0
        have hok := H.out.ok x (List.mem_of_getElem? hx)
        have hxi := HIX.out x (List.mem_of_getElem? hx)
        have hln : (pnums (P.take k)).length < 1000000000 := by have h1 := pnums_le (P.take k); rw [List.length_take] at h1; omega
        have h65 : IntKind.u64.wrap ((x.1 : Int) * 64) = ((64 * x.1 : Nat) : Int) := by rw [IntKind.wrap_u64]; omega
        have hbd0 := hspr.blk.bound
        rw [HN.out] at hbd0
        have HT : Hid (Calls Tryz.prog 85 #[.int .u64 (x.2 : Int), .int .u64 ((64 * x.1 : Nat) : Int), .pointer (some ⟨vb, 0, none⟩)] wr fun e w' => e = .returned (.tuple #[]) ∧ ∃ a2 cap2, NVs wr w' vb a' a2 cap2 (pnums (P.take (k + 1)))) := Lib.hid (by
          rw [pnums_snoc P k x hx]
          exact toNumsW _ (64 * x.1) vb a' cap' (pnums (P.take k)) wr hok.1 (by omega) hln HI.out.nv)
        generalize 64 * x.1 = k64 at *
        generalize x.1 = x1 at *
        generalize x.2 = x2 at *
        subst hab
        subst hai
        clear hspr hc hx hok hln
        go_wp2_with (go_at_call 85; refine HT.out.mono ?_)
        rintro e w3 ⟨rfl, a2, cap2, hn3⟩
        have HI3 : Hid (NVs w2 w3 vb (some ⟨g, 0, none⟩) a2 cap2 (pnums (P.take (k + 1)))) := Lib.hid (HI.out.trans hn3)
        clear hn3 HT
        go_wp2_with fail
        go_roundw
        case rel => exact ⟨k + 1, a2, cap2, by omega, by go_num, HI3⟩
        case measure => simp [intOf]; omega
      · have hkn' : ¬ (k : Int) < (n : Int) := by omega
        obtain rfl : k = n := by omega
        have HF : Hid (P.take k = P) := Lib.hid (List.take_of_length_le (by have := HN.out; omega))
        rw [HF.out] at HI
        have e0 : wr.cell? ⟨vb, 0, none⟩ = some (.slice a' (pnums P).length cap') := block_cell HI.out.nv.obj rfl
        go_wp2_with fail
        go_ret
        refine ⟨a', cap', rfl, HI.out.nv.row, new_only HW2.out.1 HI.out.only (fun j hf => ?_), fun j hj => ?_⟩
        · have h2 := HW2.out
          rcases hf with e | e
          · omega
          · have : g = j := e
            omega
        · have h2 := HW2.out
          rcases HI.out.fresh j hj with e | e
          · have : g = j := e
            omega
          · have := h2.1.size; omega
end
section
variable {s : List BA} {i : Nat} {d : BA} (hd : s[i]? = some d) (hdd : d.dense = false)
include hd hdd
/-- the sparse array that is asked -/
theorem sparse_at {w : World} {q c : Nat} {a : Option Addr} {l : List It} (h : Sta w q a c l) (hs : l.map (·.d) = s) : ∃ p ab cb ai ci P, l[i]? = some ⟨.iface 82 (.pointer (some ⟨p, 0, none⟩)), d, Fs p ab ai⟩ ∧ d = ⟨false, 0, d.set⟩ ∧ Sp w p ab cb ai ci P ∧ Rep (wd P) d.set := by
  obtain ⟨x, hx, rfl⟩ := get_of_map hs hd
  obtain ⟨v, d, F⟩ := x
  obtain ⟨p, ab, cb, ai, ci, P, rfl, rfl, h1, h2, h3⟩ := (h.get hx).sp hdd
  refine ⟨p, ab, cb, ai, ci, P, hx, ?_, h2, h3⟩
  show d = _
  obtain ⟨e1, e2, e3⟩ := d
  have h4 : e1 = false := hdd
  have h5 : e2 = 0 := h1
  rw [h4, h5]
theorem does_countS (hl : d.set.length ≤ 1000000) : Does s { op := 10, on := i } s { n := d.set.length } := by
  intro w q c a l h hs hl
  obtain ⟨p, ab, cb, ai, ci, P, hx, h1, h2, h3⟩ := sparse_at hd hdd h hs
  obtain ⟨h4, h5⟩ := pairs_len h2.good h3
  refine (stepCountS h i p d _ hx d.set.length (by omega) (Lib.hid (fun wx hS => (countS (h2.still hS)).mono ?_))).mono fun e w' hp => does_ask h hs { n := d.set.length } rfl hp
  rintro e w' ⟨rfl, rfl⟩
  rw [← h5]
  exact ⟨rfl, Only.refl _ _⟩
theorem does_emptyS : Does s { op := 15, on := i } s { yes := d.set.isEmpty } := by
  intro w q c a l h hs hl
  obtain ⟨p, ab, cb, ai, ci, P, hx, h1, h2, h3⟩ := sparse_at hd hdd h hs
  obtain ⟨h4, h5⟩ := pairs_len h2.good h3
  refine (stepEmptyS h i p d _ hx d.set.isEmpty (Lib.hid (fun wx hS => (emptyS (h2.still hS)).mono ?_))).mono fun e w' hp => does_ask h hs { yes := d.set.isEmpty } rfl hp
  rintro e w' ⟨rfl, rfl⟩
  have : P.isEmpty = d.set.isEmpty := by
    cases P with
    | nil => rw [h5]; rfl
    | cons x P =>
      cases hset : d.set with
      | nil => rw [hset] at h4; simp at h4
      | cons y l => rfl
  rw [this]
  exact ⟨rfl, Only.refl _ _⟩
theorem does_numsS (hb : ∀ k ∈ d.set, k < 1152921504606846976) : Does s { op := 14, on := i } s { nums := d.set } := by
  intro w q c a l h hs hl
  obtain ⟨p, ab, cb, ai, ci, P, hx, h1, h2, h3⟩ := sparse_at hd hdd h hs
  obtain ⟨h4, h5⟩ := pairs_len h2.good h3
  refine (stepNumsS h i p d _ hx d.set (Lib.hid (fun wx hS => ?_))).mono fun e w' hp => does_nums h hs d.set hp
  have := numsS (h2.still hS) (fun x hx => by
    obtain ⟨k, hk, e⟩ := pair_bit h2.good h3 hx
    have := hb k hk
    omega)
  rw [← h5] at this
  exact this
theorem does_setS (k : Nat) (hk : k < 1152921504606846976) (hl : d.set.length ≤ 900) : Does s { op := 3, on := i, k := k } (s.set i { d with set := put d.set k }) { yes := true } := by
  intro w q c a l h hs hll
  obtain ⟨p, ab, cb, ai, ci, P, hx, h1, h2, h3⟩ := sparse_at hd hdd h hs
  obtain ⟨h4, h5⟩ := pairs_len h2.good h3
  refine (stepSetS h i p d _ hx k { d with set := put d.set k } (Lib.hid (fun wx hS => (setS (h2.still hS) (by omega) k hk).mono ?_))).mono fun e w' hp => does_turn h hs { yes := true } rfl hx hp
  rintro e w' ⟨rfl, ho, ab2, cb2, ai2, ci2, hsp, hf⟩
  refine ⟨rfl, ho, Fs p ab2 ai2, ?_, hf⟩
  have := Arr.sparse p ab2 cb2 ai2 ci2 _ _ hsp (pput_rep h2.good h3 k)
  have e : ({ d with set := put d.set k } : BA) = ⟨false, 0, put d.set k⟩ := by rw [h1]
  rw [e]; exact this
end
end Go.Proofs.YtacjkbljokjdkaaGreat.ba
namespace Go.Proofs.YtacjkbljokjdkaaGreat.ba
open Go.RowKit Go.Proofs.YtacjkbljokjdkaaGreat.base Go.Proofs.YtacjkbljokjdkaaGreat.heap Go.Proofs.YtacjkbljokjdkaaGreat.rows Go.Proofs.YtacjkbljokjdkaaGreat.bit Go.Proofs.YtacjkbljokjdkaaGreat.bs
set_option linter.unusedVariables false
set_option maxRecDepth 100000 in
set_option maxHeartbeats 3200000 in
theorem baMadeS (size on : Nat) (a : Option Addr) (n cap : Nat) (l : List Nat) (w : World) (hl : RL uv w a n cap l) (hon : on < 1000) :
    Calls Tryz.prog 20 #[.bool false, .int .u16 (size : Int), .slice a n cap, .int .i64 (on : Int)] w (MadeQ false 0 0 on (l.take 40) w) := by
  have hbd := hl.bound
  have HR := Lib.hid hl
  obtain ⟨s, hs⟩ : ∃ s, w.heap.size = s := ⟨_, rfl⟩
  obtain ⟨p, hp⟩ : ∃ p, s + 1 = p := ⟨_, rfl⟩
  obtain ⟨r, hr⟩ : ∃ r, p + 1 = r := ⟨_, rfl⟩
  have HSP : Hid (w.heap.size ≤ s ∧ w.heap.size ≤ p ∧ s ≠ p ∧ w.heap.size ≤ r ∧ r ≠ s ∧ r ≠ p) := Lib.hid (by omega)
  obtain ⟨w1, hw1⟩ : ∃ w1, w1 = (((w.alloc (.cells #[.bool false, .int .u64 0, .slice none 0 0] 36)).alloc (.cells #[.bool false, .int .u64 0, .slice none 0 0] 36)).alloc (.cells #[.int .i64 2, .int .i64 0, .int .i64 0, .int .u64 0, .int .i64 0, .bool false] 40)) := ⟨_, rfl⟩
  have hA : Same w w1 := by rw [hw1]; exact (((Only.refl _ _).alloc _).alloc _).alloc _
  have h1 : w1.heap[s]? = some (.cells #[.bool false, .int .u64 0, .slice none 0 0] 36 (0, 0)) := by rw [hw1]; exact ((Only.refl (fun _ => False) _).alloc _).obj (by rw [← hs]; exact new_old' w _ _) id
  have h2 : w1.heap[p]? = some (.cells #[.bool false, .int .u64 0, .slice none 0 0] 36 (0, 0)) := by rw [hw1]; exact ((Only.refl (fun _ => False) _).alloc _).obj (heap_alloc_new' _ _ _ (by rw [World.size_alloc, ← hp, ← hs])) id
  have h3 : w1.heap[r]? = some (.cells #[.int .i64 2, .int .i64 0, .int .i64 0, .int .u64 0, .int .i64 0, .bool false] 40 (0, 0)) := by rw [hw1]; exact heap_alloc_new' _ _ _ (by rw [World.size_alloc, World.size_alloc, ← hr, ← hp, ← hs])
  have HW1 : Hid (Same w w1 ∧ w1.heap[s]? = _ ∧ w1.heap[p]? = _ ∧ w1.heap[r]? = _) := Lib.hid ⟨hA, h1, h2, h3⟩
  obtain ⟨q, hq⟩ : ∃ q, q = 0 := ⟨_, rfl⟩
  obtain ⟨m, hm⟩ : ∃ m, m = 0 := ⟨_, rfl⟩
  have HQ0 : Hid (q = 0 ∧ m = 0) := Lib.hid ⟨hq, hm⟩
  have HE := Lib.hid (And.intro hs (And.intro hp (And.intro hr hw1)))
  clear hl hA h1 h2 h3 hq hm hs hp hr hw1
  go_enter Tryz.func20, Tryz.ntmps20
  go_upto_region 2 with fail
  rw [← HE.out.2.2.2, HE.out.1, HE.out.2.1, HE.out.2.2.1]
  have c0 : w1.cell? ⟨r, 0, none⟩ = some (.int .i64 2) := block_cell HW1.out.2.2.2 rfl
  have c1 : w1.cell? ⟨r, 1, none⟩ = some (.int .i64 0) := block_cell HW1.out.2.2.2 rfl
  have c2 : w1.cell? ⟨r, 2, none⟩ = some (.int .i64 0) := block_cell HW1.out.2.2.2 rfl
  have c3 : w1.cell? ⟨r, 3, none⟩ = some (.int .u64 0) := block_cell HW1.out.2.2.2 rfl
  have c4 : w1.cell? ⟨r, 4, none⟩ = some (.int .i64 0) := block_cell HW1.out.2.2.2 rfl
  have c5 : w1.cell? ⟨r, 5, none⟩ = some (.bool false) := block_cell HW1.out.2.2.2 rfl
  clear HE
  go_wp2_with fail
  clear c0 c1 c2 c3 c4 c5
  go_loopw [13, 14] (fun o i wr => ∃ (k j : Nat) (ta sa : Option Addr) (tc sc : Nat), o = .slice ta (k + 1) tc ∧ i = .int .i64 (k : Int) ∧ k ≤ n ∧ k ≤ 40 ∧ Hid (Mk w wr s p false 0 0 on l k ta tc sa j sc)) (fun _ i _ => n - (intOf i).toNat)
  case atStart =>
    have hM := Mk.start (W5 := w1) (m := 0) (q := 0) (dense := false) (on := on) (l := l) HW1.out.1 HW1.out.2.1 (Only.refl _ _) HW1.out.2.2.1 HSP.out rfl
    exact ⟨0, 0, some ⟨w1.heap.size, 0, none⟩, none, 1, 0, rfl, rfl, Nat.zero_le _, by omega, Lib.hid hM⟩
  case round =>
    obtain ⟨k, j, ta, sa, tc, sc, rfl, rfl, hk, hk40, HM⟩ := hrel
    clear HW1
    have hbo := HM.out.st.bound
    have hbs := HM.out.set.bound
    by_cases hlt : k < n ∧ k < 40
    · have hlt' : (k : Int) < (n : Int) := by omega
      have hlt40 : (k : Int) < 40 := by omega
      have hk0 : (0 : Int) ≤ (k : Int) := by omega
      obtain ⟨b1, o1, ha1, hb1, hc1⟩ := (HR.out.still HM.out.same).at (by omega)
      obtain ⟨x, hx⟩ := HR.out.get hlt.1
      have g1 := hc1 k x hx
      have HX := Lib.hid hx
      subst ha1
      clear hc1 hx
      obtain ⟨y, hy⟩ : ∃ y : Nat, x % 1152921504606846976 = y := ⟨_, rfl⟩
      have hy60 : y < 1152921504606846976 := by omega
      have e4 : (x : Int) % 1152921504606846976 = (y : Int) := by omega
      have e4w : IntKind.u64.wrap (y : Int) = (y : Int) := by rw [IntKind.wrap_u64]; omega
      have HZ : Hid (cutB false 0 x = y) := Lib.hid (by unfold cutB; rw [if_neg (by simp), hy])
      clear hy
      go_wp2_with (at_builtin; refine wpList_append (k + 1 + 1) ((madeT false 0 0 on (l.take k)).flatMap stc ++ stc { op := 3, on := on, k := y }) rfl _ _ _ _ rfl slStp rfl (HM.out.st.1.keep (S := fun _ => False) (by repeat (first | exact Only.refl _ _ | apply Only.alloc | apply Only.drew)) (fun _ _ => id)) rfl (Src.row (size := 6) (cs := #[.int .i64 3, .int .i64 (on : Int), .int .i64 0, .int .u64 (y : Int), .int .i64 0, .bool false]) (t := 40) (fr := (0, 0)) Tryz.underlying33 (by exact heap_alloc_new _ _) 1 1 rfl (by simp [Value.oneCell'])) rfl rfl (by unfold maxLen; omega) (by omega) ?_)
      intro ta2 tc2 w2 hG
      have hO2 : Only (At ta) wr w2 := Only.trans (S := At ta) ((Only.refl (At ta) wr).alloc _) hG.only (fun _ _ h => h)
      have hap : ¬ At ta p := fun h => (HM.out.nt p h).2.1 rfl
      have hb2 := hO2.obj HM.out.arr hap
      have g2 : w2.cell? ⟨p, 2, none⟩ = some (.slice sa j sc) := block_cell hb2 rfl
      have hou : OU w2 sa j sc (madeS false 0 (l.take k)) := ⟨HM.out.set.1.keep hO2 (fun i hi h => (HM.out.nt i h).2.2 hi), HM.out.set.2⟩
      have hjl : j ≤ 1000000 := by
        have h1 := madeS_len false 0 (l.take k)
        have h2 := HM.out.set.2
        have h3 : (l.take k).length ≤ k := by rw [List.length_take]; omega
        omega
      have HPUT : Hid (Calls Tryz.prog 25 #[.slice sa j sc, .int .u64 (y : Int)] w2 (PutP (put (madeS false 0 (l.take k)) y) sa w2)) := Lib.hid (baPut hou (madeS_asc _ _ _) y hjl)
      have HGG := Lib.hid hG
      have HB2 := Lib.hid hb2
      clear hG hO2 hap hb2 hou g1
      go_wp2_with (go_at_call 25; refine HPUT.out.mono ?_)
      rintro e w3 ⟨sa2, sc2, rfl, hP, hS3, hF3⟩
      have HP3 := Lib.hid (And.intro hP (And.intro hS3 hF3))
      have hb3 := hS3.obj HB2.out id
      have f3 : ∀ i, w3.frozen? ⟨p, i, none⟩ = false := fun i => block_free hb3
      have g3 : w3.cell? ⟨p, 2, none⟩ = some (.slice sa j sc) := block_cell hb3 rfl
      obtain ⟨j2, hj2⟩ : ∃ j2, (put (madeS false 0 (l.take k)) y).length = j2 := ⟨_, rfl⟩
      rw [hj2] at HP3
      rw [hj2]
      have HFIN : Hid (∀ w4, w4 = w3.setCell ⟨p, 2, none⟩ (.slice sa2 j2 sc2) → Mk w w4 s p false 0 0 on l (k + 1) ta2 tc2 sa2 j2 sc2) := Lib.hid (fun w4 h4 => HM.out.step HX.out (by rw [HZ.out]; exact HGG.out) (by rw [HZ.out]; exact HP3.out.1) HP3.out.2.1 HP3.out.2.2 h4)
      clear hP hS3 hF3 hb3 HPUT g2 hj2
      go_wp2_with fail
      go_roundw
      case rel => exact ⟨k + 1, j2, ta2, sa2, tc2, sc2, rfl, by go_num, by omega, by omega, Lib.hid (HFIN.out _ rfl)⟩
      case measure => simp [intOf]; omega
    · have HT : Hid ((l.take 40).length = k ∧ l.take k = l.take 40) := Lib.hid (by
        have h1 := HR.out.2
        rw [List.length_take]
        refine ⟨by omega, ?_⟩
        by_cases e : k = 40
        · rw [e]
        · have : k = n := by omega
          rw [List.take_of_length_le (by omega), List.take_of_length_le (by omega)])
      have c0 : wr.cell? ⟨p, 0, none⟩ = some (.bool false) := block_cell HM.out.arr rfl
      have c1 : wr.cell? ⟨p, 1, none⟩ = some (.int .u64 0) := block_cell HM.out.arr rfl
      have c2 : wr.cell? ⟨p, 2, none⟩ = some (.slice sa j sc) := block_cell HM.out.arr rfl
      have d0 : wr.cell? ⟨s, 0, none⟩ = some (.bool false) := block_cell HM.out.res rfl
      have d1 : wr.cell? ⟨s, 1, none⟩ = some (.int .u64 0) := block_cell HM.out.res rfl
      have d2 : wr.cell? ⟨s, 2, none⟩ = some (.slice none 0 0) := block_cell HM.out.res rfl
      have f2 : ∀ i, wr.frozen? ⟨s, i, none⟩ = false := fun i => block_free HM.out.res
      have HQ : Hid (∀ w', Only (fun i => i = s) wr w' → MadeQ false 0 0 on (l.take 40) w (.returned (.tuple #[.slice ta (k + 1) tc, .agg #[.bool false, .int .u64 0, .slice sa j sc]])) w') := Lib.hid (fun w' hw => by
        have h1 := HM.out.st.keep hw (fun i hi e => (HM.out.nt i hi).1 e)
        have h2 : OU w' sa j sc (madeS false 0 (l.take k)) := ⟨HM.out.set.1.keep hw (fun i hi e => (HM.out.ns i hi).1 e), HM.out.set.2⟩
        rw [HT.out.2] at h1 h2
        have hj := h2.2
        have hk' := HT.out.1
        refine ⟨ta, tc, sa, sc, by rw [hj, hk']; rfl, by rw [hk']; exact h1, by rw [hj]; exact h2, new_only HM.out.same hw (fun i hi => by rw [hi]; exact HM.out.sz.1), fun i => ⟨fun hi => ⟨HM.out.new i (.inl hi), (HM.out.nt i hi).2.2⟩, fun hi => HM.out.new i (.inr hi)⟩⟩)
      have hO : ∀ v1 v2 v3 : Value, Only (fun i => i = s) wr (((wr.setCell ⟨s, 0, none⟩ v1).setCell ⟨s, 1, none⟩ v2).setCell ⟨s, 2, none⟩ v3) := fun v1 v2 v3 => (((Only.refl (fun i => i = s) wr).setCell ⟨s, 0, none⟩ v1 (fun _ => rfl)).setCell ⟨s, 1, none⟩ v2 (fun _ => rfl)).setCell ⟨s, 2, none⟩ v3 (fun _ => rfl)
      have HO := Lib.hid hO
      clear hO
      by_cases hkn : k < n
      · have hlt' : (k : Int) < (n : Int) := by omega
        have hlt40 : ¬ (k : Int) < 40 := by omega
        go_wp2_with fail
        go_region
        all_goals
          go_wp2_with fail
          exact ret_made rfl rfl (setCell_heap (setCell_heap (setCell_heap HM.out.res 0 _) 1 _) 2 _) (HQ.out _ (HO.out _ _ _).drew)
      · have hlt' : ¬ (k : Int) < (n : Int) := by omega
        go_wp2_with fail
        go_region
        all_goals
          go_wp2_with fail
          exact ret_made rfl rfl (setCell_heap (setCell_heap (setCell_heap HM.out.res 0 _) 1 _) 2 _) (HQ.out _ (HO.out _ _ _).drew)
end Go.Proofs.YtacjkbljokjdkaaGreat.ba
namespace Go.Proofs.YtacjkbljokjdkaaGreat.ba
open Go.RowKit Go.Proofs.YtacjkbljokjdkaaGreat.base Go.Proofs.YtacjkbljokjdkaaGreat.heap Go.Proofs.YtacjkbljokjdkaaGreat.rows Go.Proofs.YtacjkbljokjdkaaGreat.bit Go.Proofs.YtacjkbljokjdkaaGreat.bs
set_option linter.unusedVariables false
/-- the numbers of a made array -/
def MadeG (x : Bool) (m q : Nat) : Prop := (x = true ∧ m ≤ 1000 ∧ (m + 63) / 64 = q ∧ 1 ≤ q) ∨ (x = false ∧ m = 0 ∧ q = 0)
theorem madeS_mem {x : Bool} {q : Nat} {p : Nat → Prop} (hp : ∀ y, p (cutB x q y)) : ∀ (L : List Nat), ∀ k ∈ madeS x q L, p k := by
  intro L
  unfold madeS
  suffices h : ∀ s : List Nat, (∀ k ∈ s, p k) → ∀ k ∈ L.foldl (fun s y => put s (cutB x q y)) s, p k from h [] (by simp)
  induction L with
  | nil => exact fun s hs => hs
  | cons y L ih =>
    intro s hs
    refine ih _ (fun k hk => ?_)
    rcases put_mem.1 hk with rfl | h
    · exact hp y
    · exact hs k h
theorem cutB_lt60 (x : Bool) (q y : Nat) : cutB x q y < 1152921504606846976 := by
  unfold cutB
  split
  · exact Nat.lt_of_le_of_lt (Nat.mod_le _ _) (Nat.mod_lt _ (by omega))
  · exact Nat.mod_lt _ (by omega)
theorem madeS_lt60 (x : Bool) (q : Nat) (L : List Nat) : ∀ k ∈ madeS x q L, k < 1152921504606846976 := madeS_mem (fun y => cutB_lt60 x q y) L
theorem does_first {x : Bool} {m q : Nat} (h : MadeG x m q) (s : List BA) : Does s (firstT x m) (s ++ [⟨x, q, []⟩]) {} := by
  rcases h with ⟨rfl, h1, h2, h3⟩ | ⟨rfl, rfl, rfl⟩
  · have := does_dense s m (by omega)
    rw [h2] at this
    exact this
  · exact does_sparse s
theorem does_setG {s : List BA} {i : Nat} {x : Bool} {m q : Nat} (h : MadeG x m q) {S : List Nat} (hd : s[i]? = some ⟨x, q, S⟩) (hl : S.length ≤ 900) (y : Nat) : Does s { op := 3, on := i, k := cutB x q y } (s.set i ⟨x, q, put S (cutB x q y)⟩) { yes := true } := by
  rcases h with ⟨rfl, h1, h2, h3⟩ | ⟨rfl, rfl, rfl⟩
  · exact does_setD hd rfl _ (cutB_lt h3)
  · exact does_setS hd rfl _ (cutB_lt60 _ _ _) hl
/-- making an array -/
theorem goes_made {x : Bool} {m q : Nat} (h : MadeG x m q) (s : List BA) (on : Nat) (L : List Nat) (hon : s.length = on) (hon2 : on < 999) (hL : L.length ≤ 40) : ∃ ys, ys.length = L.length + 1 ∧ Goes s (madeT x m q on L) ys (s ++ [⟨x, q, madeS x q L⟩]) := by
  suffices h : ∀ k, k ≤ L.length → ∃ ys, Goes s (madeT x m q on (L.take k)) ys (s ++ [⟨x, q, madeS x q (L.take k)⟩]) by
    obtain ⟨ys, h⟩ := h L.length (Nat.le_refl _)
    rw [List.take_of_length_le (Nat.le_refl _)] at h
    exact ⟨ys, by rw [h.len]; simp [madeT], h⟩
  intro k
  induction k with
  | zero =>
    intro _
    exact ⟨[{}], by omega, s ++ [⟨x, q, []⟩], {}, [], does_first h s, rfl, rfl, rfl⟩
  | succ k ih =>
    intro hk
    obtain ⟨ys, hg⟩ := ih (by omega)
    have hx : L[k]? = some L[k] := List.getElem?_eq_getElem (by omega)
    rw [madeT_snoc _ _ _ _ _ _ _ hx, madeS_snoc _ _ _ _ _ hx]
    refine ⟨ys ++ [{ yes := true }], hg.snoc (by simp; omega) ?_⟩
    have hd : (s ++ [(⟨x, q, madeS x q (L.take k)⟩ : BA)])[on]? = some ⟨x, q, madeS x q (L.take k)⟩ := by rw [← hon]; simp
    have hl : (madeS x q (L.take k)).length ≤ 900 := by have h1 := madeS_len x q (L.take k); rw [List.length_take] at h1; omega
    have := does_setG h hd hl L[k]
    have e : (s ++ [(⟨x, q, madeS x q (L.take k)⟩ : BA)]).set on ⟨x, q, put (madeS x q (L.take k)) (cutB x q L[k])⟩ = s ++ [⟨x, q, put (madeS x q (L.take k)) (cutB x q L[k])⟩] := by
      rw [← hon, List.set_append_right _ _ (Nat.le_refl _)]; simp
    rw [← e]
    exact this
/-- what is asked of an array -/
def Fine (d : BA) : Prop := d.dense = false → d.set.length ≤ 1000000 ∧ ∀ k ∈ d.set, k < 1152921504606846976
theorem does_nums_ {s : List BA} {i : Nat} {d : BA} (hd : s[i]? = some d) (hf : Fine d) : Does s { op := 14, on := i } s { nums := d.set } := by
  cases h : d.dense with
  | true => exact does_numsD hd h
  | false => exact does_numsS hd h (hf h).2
theorem does_count_ {s : List BA} {i : Nat} {d : BA} (hd : s[i]? = some d) (hf : Fine d) : Does s { op := 10, on := i } s { n := d.set.length } := by
  cases h : d.dense with
  | true => exact does_countD hd h
  | false => exact does_countS hd h (hf h).1
theorem does_empty_ {s : List BA} {i : Nat} {d : BA} (hd : s[i]? = some d) : Does s { op := 15, on := i } s { yes := d.set.isEmpty } := by
  cases h : d.dense with
  | true => exact does_emptyD hd h
  | false => exact does_emptyS hd h
theorem runs_two_ {x y z : BA} {op : Nat} (hx : Fine x) (hy : Fine y) (hz : Fine z) (h : Does [x, y] { op := op, on := 0, by_ := 1 } [x, y, z] {}) : Runs [x, y] (twoT op) (twoY x.set y.set z.set) := by
  have h2 : ([x, y, z] : List BA)[2]? = some z := rfl
  have h0 : ([x, y, z] : List BA)[0]? = some x := rfl
  have h1 : ([x, y, z] : List BA)[1]? = some y := rfl
  exact ⟨by simp, _, _, _, h, rfl, by simp, _, _, _, does_nums_ h2 hz, rfl, by simp, _, _, _, does_count_ h2 hz, rfl, by simp, _, _, _, does_empty_ h2, rfl, by simp, _, _, _, does_nums_ h0 hx, rfl, by simp, _, _, _, does_nums_ h1 hy, rfl, rfl⟩
theorem fine_made (x : Bool) (q : Nat) (L : List Nat) (hL : L.length ≤ 40) : Fine ⟨x, q, madeS x q L⟩ := fun _ => ⟨by have := madeS_len x q L; show (madeS x q L).length ≤ 1000000; omega, madeS_lt60 x q L⟩
/-- the whole run of such a law -/
theorem runs_made {x y : Bool} {op m1 q1 m2 q2 : Nat} {L1 L2 : List Nat} {z : BA} (g1 : MadeG x m1 q1) (g2 : MadeG y m2 q2) (hL1 : L1.length ≤ 40) (hL2 : L2.length ≤ 40) (hz : Fine z)
    (h : Does [⟨x, q1, madeS x q1 L1⟩, ⟨y, q2, madeS y q2 L2⟩] { op := op, on := 0, by_ := 1 } [⟨x, q1, madeS x q1 L1⟩, ⟨y, q2, madeS y q2 L2⟩, z] {}) :
    ∃ Y, Y.length = L1.length + 1 + (L2.length + 1) ∧ Runs [] (madeT x m1 q1 0 L1 ++ madeT y m2 q2 1 L2 ++ twoT op) (Y ++ twoY (madeS x q1 L1) (madeS y q2 L2) z.set) := by
  obtain ⟨Y1, l1, r1⟩ := goes_made g1 [] 0 L1 rfl (by omega) hL1
  obtain ⟨Y2, l2, r2⟩ := goes_made g2 [⟨x, q1, madeS x q1 L1⟩] 1 L2 rfl (by omega) hL2
  refine ⟨Y1 ++ Y2, by rw [List.length_append, l1, l2], ?_⟩
  rw [List.append_assoc, List.append_assoc]
  exact r1.runs (r2.runs (runs_two_ (fine_made _ _ _ hL1) (fine_made _ _ _ hL2) hz h))
theorem madeCS {s on n c : Nat} {a : Option Addr} {l : List Nat} (hon : on < 1000) : ∀ wx, RL uv wx a n c l → Calls Tryz.prog 20 #[.bool false, .int .u16 (s : Int), .slice a n c, .int .i64 (on : Int)] wx (MadeQ false 0 0 on (l.take 40) wx) :=
  fun wx h => baMadeS s on a n c l wx h hon
end Go.Proofs.YtacjkbljokjdkaaGreat.ba
namespace Go.Proofs.YtacjkbljokjdkaaGreat.ba
open Go.RowKit Go.Proofs.YtacjkbljokjdkaaGreat.base Go.Proofs.YtacjkbljokjdkaaGreat.heap Go.Proofs.YtacjkbljokjdkaaGreat.rows Go.Proofs.YtacjkbljokjdkaaGreat.bit Go.Proofs.YtacjkbljokjdkaaGreat.bs
set_option linter.unusedVariables false
/-- in the course of making -/
structure Prs (w wr : World) (ab : Option Addr) (cb : Nat) (ai : Option Addr) (ci : Nat) (R : List (Nat × Nat)) : Prop where
  same : Same w wr
  blk : Own 74 1 wr ab R.length cb (U (R.map (·.2)))
  idx : Own 34 1 wr ai R.length ci (U (R.map (·.1)))
  new : ∀ k, At ab k ∨ At ai k → w.heap.size ≤ k
  bi : ∀ k, At ab k → ¬ At ai k
section
variable {w wr w2 w3 : World} {ab ai ab2 ai2 : Option Addr} {cb ci cb2 ci2 : Nat} {R : List (Nat × Nat)}
theorem Prs.still (h : Prs w wr ab cb ai ci R) (hs : Same wr w2) : Prs w w2 ab cb ai ci R :=
  ⟨Same.trans h.same hs, h.blk.keep hs (fun _ _ => id), h.idx.keep hs (fun _ _ => id), h.new, h.bi⟩
theorem Prs.mid (h : Prs w wr ab cb ai ci R) {o : Obj} {X : List (Nat × Nat)} {m : Nat} (hG1 : Grew 34 1 (wr.alloc o) w2 ai ai2 m (R.length + m) ci ci2 (U (R.map (·.1)) ++ U (X.map (·.1)))) : Own 74 1 w2 ab R.length cb (U (R.map (·.2))) ∧ Same w w2 :=
  ⟨(h.blk.keep ((Only.refl (fun _ => False) wr).alloc o) (fun _ _ => id)).keep hG1.only (fun k hk => h.bi k hk), new_only (Same.trans h.same ((Only.refl _ _).alloc o)) hG1.only (fun k hk => h.new k (.inr hk))⟩
theorem Prs.push (h : Prs w wr ab cb ai ci R) {o1 o2 : Obj} {X : List (Nat × Nat)} {m : Nat} (hm : X.length = m) (hG1 : Grew 34 1 (wr.alloc o1) w2 ai ai2 m (R.length + m) ci ci2 (U (R.map (·.1)) ++ U (X.map (·.1))))
    (hG2 : Grew 74 1 (w2.alloc o2) w3 ab ab2 m (R.length + m) cb cb2 (U (R.map (·.2)) ++ U (X.map (·.2)))) : Prs w w3 ab2 cb2 ai2 ci2 (R ++ X) := by
  obtain ⟨m1, m2⟩ := h.mid hG1
  have z1 := h.same.size
  have z2 := m2.size
  have f1 : ∀ k, At ai2 k → w.heap.size ≤ k := fun k hk => by
    rcases hG1.fresh k hk with h1 | h1
    · exact h.new k (.inr h1)
    · simp at h1; omega
  have f2 : ∀ k, At ab2 k → w.heap.size ≤ k := fun k hk => by
    rcases hG2.fresh k hk with h1 | h1
    · exact h.new k (.inl h1)
    · simp at h1; omega
  have l2 := hG1.own.lt
  have lb := h.blk.lt
  have dis : ∀ k, At ab k → ¬ At ai2 k := fun k hk e => by
    rcases hG1.fresh k e with h1 | h1
    · exact h.bi k hk h1
    · have := lb k hk; simp at h1; omega
  have hi := (hG1.own.keep ((Only.refl (fun _ => False) w2).alloc o2) (fun _ _ => id)).keep hG2.only (fun k hk h2 => dis k h2 hk)
  have e1 : U (R.map (·.1)) ++ U (X.map (·.1)) = U ((R ++ X).map (·.1)) := by simp [U]
  have e2 : U (R.map (·.2)) ++ U (X.map (·.2)) = U ((R ++ X).map (·.2)) := by simp [U]
  have e3 : R.length + m = (R ++ X).length := by rw [List.length_append, hm]
  rw [e1, e3] at hi
  have hb := hG2.own
  rw [e2, e3] at hb
  refine ⟨new_only (Same.trans m2 ((Only.refl _ _).alloc o2)) hG2.only (fun k hk => h.new k (.inl hk)), hb, hi, fun k hk => hk.elim (f2 k) (f1 k), fun k hk e => ?_⟩
  rcases hG2.fresh k hk with h1 | h1
  · exact dis k h1 e
  · have := l2 k e; simp at h1; omega
/-- the array behind its interface type -/
theorem Prs.arr (h : Prs w wr ab cb ai ci R) (hg : Good R) (hl : R.length ≤ 1000000) {l : List Nat} (hr : Rep (wd R) l) :
    NewA ⟨false, 0, l⟩ w (.returned (.iface 82 (.pointer (some ⟨wr.heap.size, 0, none⟩)))) (wr.alloc (.cells #[.slice ab R.length cb, .slice ai R.length ci] 94)) := by
  have hA := (Only.refl (fun _ => False) wr).alloc (.cells #[.slice ab R.length cb, .slice ai R.length ci] 94)
  have lb := h.blk.lt
  have li := h.idx.lt
  refine ⟨_, _, _, rfl, .sparse wr.heap.size ab cb ai ci R l ⟨heap_alloc_new _ _, h.blk.keep hA (fun _ _ => id), h.idx.keep hA (fun _ _ => id), hg.1, hg.2, fun e => by have := lb _ e; omega, fun e => by have := li _ e; omega, h.bi, hl⟩ hr, Same.trans h.same hA, ?_⟩
  rintro k (rfl | hk | hk)
  · exact h.same.size
  · exact h.new k (.inl hk)
  · exact h.new k (.inr hk)
end
/-- both rows are new and empty -/
theorem prs_new (w : World) (c : Nat) (hc : c ≤ 1000000) : Prs w ((w.alloc (.cells (madeCells #[.int .u64 0] c) 34)).alloc (.cells (madeCells #[.int .u64 0] c) 74)) (some ⟨w.heap.size + 1, 0, none⟩) c (some ⟨w.heap.size, 0, none⟩) c [] := by
  refine ⟨((Only.refl _ _).alloc _).alloc _, ?_, ?_, ?_, ?_⟩
  · have := Own.of_block (e := 74) (size := 1) (heap_alloc_new' (w.alloc (.cells (madeCells #[.int .u64 0] c) 34)) (.cells (madeCells #[.int .u64 0] c) 74) (w.heap.size + 1) (by simp)) 0 c (Nat.zero_le _) (by unfold maxLen; omega) (by simp [madeCells]) (by simp)
    simpa [U] using this
  · have := Own.of_block (e := 34) (size := 1) (new_old w (.cells (madeCells #[.int .u64 0] c) 34) (.cells (madeCells #[.int .u64 0] c) 74)) 0 c (Nat.zero_le _) (by unfold maxLen; omega) (by simp [madeCells]) (by simp)
    simpa [U] using this
  · rintro k (h | h)
    · have : w.heap.size + 1 = k := h
      omega
    · have : w.heap.size = k := h
      omega
  · intro k h1 h2
    have : w.heap.size + 1 = k := h1
    have : w.heap.size = k := h2
    omega
end Go.Proofs.YtacjkbljokjdkaaGreat.ba
namespace Go.Proofs.YtacjkbljokjdkaaGreat.ba
open Go.Proofs.YtacjkbljokjdkaaGreat.bit
set_option linter.unusedVariables false
/-- what is left of a pair -/
def gN (Q : List (Nat × Nat)) (x : Nat × Nat) : Option (Nat × Nat) := if nandW x.2 (wd Q x.1) = 0 then none else some (x.1, nandW x.2 (wd Q x.1))
def nandP (P Q : List (Nat × Nat)) : List (Nat × Nat) := P.filterMap (gN Q)
theorem gN_some {Q : List (Nat × Nat)} {x y : Nat × Nat} (h : gN Q x = some y) : y = (x.1, nandW x.2 (wd Q x.1)) ∧ nandW x.2 (wd Q x.1) ≠ 0 := by
  unfold gN at h
  split at h
  · cases h
  · rename_i h0; exact ⟨(Option.some.inj h).symm, h0⟩
theorem nandP_mem {P Q : List (Nat × Nat)} {y : Nat × Nat} : y ∈ nandP P Q ↔ ∃ x ∈ P, y = (x.1, nandW x.2 (wd Q x.1)) ∧ nandW x.2 (wd Q x.1) ≠ 0 := by
  unfold nandP
  rw [List.mem_filterMap]
  constructor
  · rintro ⟨x, hx, h⟩; exact ⟨x, hx, gN_some h⟩
  · rintro ⟨x, hx, rfl, h⟩; exact ⟨x, hx, by unfold gN; rw [if_neg h]⟩
theorem nandP_asc {Q : List (Nat × Nat)} : ∀ {P : List (Nat × Nat)}, PAsc P → PAsc (nandP P Q)
  | [], _ => Asc.nil
  | x :: P, h => by
    obtain ⟨h1, h2⟩ := List.pairwise_cons.1 (show Asc (x.1 :: P.map (·.1)) from h)
    have ih := nandP_asc (Q := Q) (P := P) h2
    unfold nandP
    rw [List.filterMap_cons]
    split
    · exact ih
    · rename_i y hy
      obtain ⟨rfl, _⟩ := gN_some hy
      refine List.pairwise_cons.2 ⟨fun z hz => ?_, ih⟩
      obtain ⟨t, ht, rfl⟩ := List.mem_map.1 hz
      obtain ⟨u, hu, rfl, _⟩ := nandP_mem.1 ht
      exact h1 _ (List.mem_map.2 ⟨u, hu, rfl⟩)
theorem nandP_good {P Q : List (Nat × Nat)} (h : Good P) : Good (nandP P Q) := ⟨nandP_asc h.1, fun y hy => by
  obtain ⟨x, hx, rfl, h0⟩ := nandP_mem.1 hy
  exact ⟨nandW_lt (h.2 x hx).1, h0, (h.2 x hx).2.2⟩⟩
theorem nandW_zero {x : Nat} (h : Lt64 x) : nandW x 0 = x := by
  apply Nat.eq_of_testBit_eq
  intro i
  rw [nandW_bit h lt64_zero]; simp
theorem zero_nandW (y : Nat) : nandW 0 y = 0 := by unfold nandW; simp
theorem nandP_wd {P Q : List (Nat × Nat)} (h : Good P) (j : Nat) : wd (nandP P Q) j = nandW (wd P j) (wd Q j) := by
  refine wd_char (f := fun j => nandW (wd P j) (wd Q j)) (nandP_asc h.1) (fun j b hb => ?_) (fun j hn => ?_) j
  · obtain ⟨x, hx, e, h0⟩ := nandP_mem.1 hb
    injection e with e1 e2
    subst e1
    show nandW (wd P x.1) (wd Q x.1) = b
    rw [wd_mem h.1 (j := x.1) (b := x.2) hx, e2]
  · show nandW (wd P j) (wd Q j) = 0
    by_cases h0 : nandW (wd P j) (wd Q j) = 0
    · exact h0
    · by_cases hp : wd P j = 0
      · rw [hp, zero_nandW]
      · exact absurd (nandP_mem.2 ⟨(j, wd P j), wd_some hp, rfl, h0⟩) (hn _)
theorem Good.lt {P : List (Nat × Nat)} (h : Good P) (j : Nat) : Lt64 (wd P j) := by
  by_cases h0 : wd P j = 0
  · rw [h0]; exact lt64_zero
  · exact (h.2 _ (wd_some h0)).1
theorem nandP_rep {P Q : List (Nat × Nat)} (hP : Good P) (hQ : Good Q) {a b : List Nat} (ha : Rep (wd P) a) (hb : Rep (wd Q) b) : Rep (wd (nandP P Q)) (nandL a b) := by
  have hs := nandL_spec ha.1 b
  exact (rep_nand hP.lt hQ.lt ha hb hs.1 hs.2).congr (fun j => (nandP_wd hP j).symm)
theorem nandP_len (P Q : List (Nat × Nat)) : (nandP P Q).length ≤ P.length := List.length_filterMap_le _ _
theorem nandP_snoc {P Q : List (Nat × Nat)} {k : Nat} {x : Nat × Nat} (h : P[k]? = some x) : nandP (P.take (k + 1)) Q = nandP (P.take k) Q ++ (gN Q x).toList := by
  unfold nandP
  rw [List.take_add_one, h, List.filterMap_append]
  congr 1
/-- the places ahead of o lie below all from i on -/
def Ahead (P Q : List (Nat × Nat)) (i o : Nat) : Prop := ∀ x ∈ P.drop i, ∀ y ∈ Q.take o, y.1 < x.1
theorem Ahead.zero (P Q : List (Nat × Nat)) (i : Nat) : Ahead P Q i 0 := fun x hx y hy => by simp at hy
theorem drop_mem {P : List (Nat × Nat)} {i : Nat} {x : Nat × Nat} (h : P[i]? = some x) : x ∈ P.drop i := List.mem_iff_getElem?.2 ⟨0, by rw [List.getElem?_drop]; exact h⟩
theorem drop_succ_mem {P : List (Nat × Nat)} {i : Nat} {x : Nat × Nat} (h : x ∈ P.drop (i + 1)) : x ∈ P.drop i := by
  obtain ⟨k, hk⟩ := List.mem_iff_getElem?.1 h
  rw [List.getElem?_drop] at hk
  exact List.mem_iff_getElem?.2 ⟨k + 1, by rw [List.getElem?_drop, show i + (k + 1) = i + 1 + k by omega]; exact hk⟩
theorem Ahead.left {P Q : List (Nat × Nat)} {i o : Nat} (h : Ahead P Q i o) : Ahead P Q (i + 1) o := fun x hx y hy => h x (drop_succ_mem hx) y hy
theorem Ahead.right {P Q : List (Nat × Nat)} {i o : Nat} (hP : PAsc P) (h : Ahead P Q i o) {x y : Nat × Nat} (hx : P[i]? = some x) (hy : Q[o]? = some y) (hlt : y.1 < x.1) : Ahead P Q i (o + 1) := fun u hu v hv => by
  rw [List.take_add_one, hy] at hv
  rcases List.mem_append.1 hv with h1 | h1
  · exact h u hu v h1
  · have : v = y := by simpa using h1
    subst this
    obtain ⟨k, hk⟩ := List.mem_iff_getElem?.1 hu
    rw [List.getElem?_drop] at hk
    rcases Nat.eq_zero_or_pos k with rfl | h0
    · rw [Nat.add_zero, hx] at hk; cases hk; exact hlt
    · have := Asc.get hP (i := i) (j := i + k) (x := x.1) (y := u.1) (by omega) (by rw [List.getElem?_map, hx]; rfl) (by rw [List.getElem?_map, hk]; rfl)
      omega
theorem Ahead.both {P Q : List (Nat × Nat)} {i o : Nat} (hP : PAsc P) (h : Ahead P Q i o) {x y : Nat × Nat} (hx : P[i]? = some x) (hy : Q[o]? = some y) (he : y.1 = x.1) : Ahead P Q (i + 1) (o + 1) := fun u hu v hv => by
  rw [List.take_add_one, hy] at hv
  rcases List.mem_append.1 hv with h1 | h1
  · exact h.left u hu v h1
  · have : v = y := by simpa using h1
    subst this
    obtain ⟨k, hk⟩ := List.mem_iff_getElem?.1 hu
    rw [List.getElem?_drop] at hk
    have := Asc.get hP (i := i) (j := i + 1 + k) (x := x.1) (y := u.1) (by omega) (by rw [List.getElem?_map, hx]; rfl) (by rw [List.getElem?_map, hk]; rfl)
    omega
theorem Ahead.none_end {P Q : List (Nat × Nat)} {i o : Nat} (h : Ahead P Q i o) (ho : o = Q.length) {x : Nat × Nat} (hx : P[i]? = some x) : wd Q x.1 = 0 := wd_none (fun b hb => by
  have := h x (drop_mem hx) (x.1, b) (by rw [List.take_of_length_le (by omega)]; exact hb)
  omega)
theorem Ahead.none_gap {P Q : List (Nat × Nat)} {i o : Nat} (hQ : PAsc Q) (h : Ahead P Q i o) {x y : Nat × Nat} (hx : P[i]? = some x) (hy : Q[o]? = some y) (hlt : x.1 < y.1) : wd Q x.1 = 0 := wd_none (fun b hb => by
  obtain ⟨k, hk⟩ := List.mem_iff_getElem?.1 hb
  rcases Nat.lt_or_ge k o with h1 | h1
  · have := h x (drop_mem hx) (x.1, b) (List.mem_iff_getElem?.2 ⟨k, by rw [List.getElem?_take, if_pos h1]; exact hk⟩)
    omega
  · rcases Nat.eq_or_lt_of_le h1 with rfl | h2
    · rw [hk] at hy; cases hy; simp at hlt
    · have := Asc.get hQ (i := o) (j := k) (x := y.1) (y := x.1) h2 (by rw [List.getElem?_map, hy]; rfl) (by rw [List.getElem?_map, hk]; rfl)
      omega)
end Go.Proofs.YtacjkbljokjdkaaGreat.ba
namespace Go.Proofs.YtacjkbljokjdkaaGreat.ba
open Go.Proofs.YtacjkbljokjdkaaGreat.bit
set_option linter.unusedVariables false
theorem wd_one (a b j : Nat) : wd [(a, b)] j = if j = a then b else 0 := by
  unfold wd
  rw [List.find?_cons]
  by_cases h : j = a
  · subst h; simp
  · have : (a == j) = false := by simp; exact fun e => h e.symm
    simp [this, h]
theorem PAsc.left {A B : List (Nat × Nat)} (h : PAsc (A ++ B)) : PAsc A := by
  unfold PAsc at *; rw [List.map_append] at h; exact (List.pairwise_append.1 h).1
theorem PAsc.right {A B : List (Nat × Nat)} (h : PAsc (A ++ B)) : PAsc B := by
  unfold PAsc at *; rw [List.map_append] at h; exact (List.pairwise_append.1 h).2.1
theorem PAsc.app {A B : List (Nat × Nat)} (ha : PAsc A) (hb : PAsc B) (h : ∀ x ∈ A, ∀ y ∈ B, x.1 < y.1) : PAsc (A ++ B) := by
  unfold PAsc at *
  rw [List.map_append]
  refine ha.append hb (fun x hx y hy => ?_)
  obtain ⟨u, hu, rfl⟩ := List.mem_map.1 hx
  obtain ⟨v, hv, rfl⟩ := List.mem_map.1 hy
  exact h u hu v hv
theorem PAsc.lt {A B : List (Nat × Nat)} (h : PAsc (A ++ B)) : ∀ x ∈ A, ∀ y ∈ B, x.1 < y.1 := fun x hx y hy => by
  unfold PAsc at h
  rw [List.map_append] at h
  exact (List.pairwise_append.1 h).2.2 x.1 (List.mem_map.2 ⟨x, hx, rfl⟩) y.1 (List.mem_map.2 ⟨y, hy, rfl⟩)
theorem wd_app {A B : List (Nat × Nat)} (h : PAsc (A ++ B)) (j : Nat) : wd (A ++ B) j = wd A j ||| wd B j := by
  refine wd_char (f := fun j => wd A j ||| wd B j) h (fun j b hb => ?_) (fun j hn => ?_) j
  · show wd A j ||| wd B j = b
    rcases List.mem_append.1 hb with h1 | h1
    · have : wd B j = 0 := wd_none (fun c hc => by have := h.lt _ h1 _ hc; simp at this)
      rw [wd_mem h.left h1, this, Nat.or_zero]
    · have : wd A j = 0 := wd_none (fun c hc => by have := h.lt _ hc _ h1; simp at this)
      rw [wd_mem h.right h1, this, Nat.zero_or]
  · show wd A j ||| wd B j = 0
    rw [wd_none (fun b hb => hn b (List.mem_append.2 (.inl hb))), wd_none (fun b hb => hn b (List.mem_append.2 (.inr hb)))]; rfl
theorem wd_take {P : List (Nat × Nat)} (h : PAsc P) {i : Nat} {x : Nat × Nat} (hx : P[i]? = some x) (j : Nat) : wd (P.take (i + 1)) j = wd (P.take i) j ||| wd [x] j := by
  have e : P.take (i + 1) = P.take i ++ [x] := by rw [List.take_add_one, hx]; rfl
  have hp : PAsc (P.take i ++ [x]) := by
    rw [← e]; unfold PAsc; rw [map_fst_take]; exact Asc.take h _
  rw [e]; exact wd_app hp j
theorem wd_cut {P : List (Nat × Nat)} (h : PAsc P) (i j : Nat) : wd P j = wd (P.take i) j ||| wd (P.drop i) j := by
  have := wd_app (A := P.take i) (B := P.drop i) (by rw [List.take_append_drop]; exact h) j
  rw [List.take_append_drop] at this
  exact this
theorem drop_lt {P : List (Nat × Nat)} (h : PAsc P) {i : Nat} {x : Nat × Nat} (hx : P[i]? = some x) : ∀ u ∈ P.drop (i + 1), x.1 < u.1 := fun u hu => by
  obtain ⟨k, hk⟩ := List.mem_iff_getElem?.1 hu
  rw [List.getElem?_drop] at hk
  exact Asc.get h (i := i) (j := i + 1 + k) (x := x.1) (y := u.1) (by omega) (by rw [List.getElem?_map, hx]; rfl) (by rw [List.getElem?_map, hk]; rfl)
theorem drop_le {P : List (Nat × Nat)} (h : PAsc P) {i : Nat} {x : Nat × Nat} (hx : P[i]? = some x) : ∀ u ∈ P.drop i, x.1 ≤ u.1 := fun u hu => by
  obtain ⟨k, hk⟩ := List.mem_iff_getElem?.1 hu
  rw [List.getElem?_drop] at hk
  rcases Nat.eq_zero_or_pos k with rfl | h0
  · rw [Nat.add_zero, hx] at hk; cases hk; exact Nat.le_refl _
  · exact Nat.le_of_lt (Asc.get h (i := i) (j := i + k) (x := x.1) (y := u.1) (by omega) (by rw [List.getElem?_map, hx]; rfl) (by rw [List.getElem?_map, hk]; rfl))
/-- in the course of Or -/
structure OrInv (P Q R : List (Nat × Nat)) (i o : Nat) : Prop where
  good : Good R
  wds : ∀ j, wd R j = wd (P.take i) j ||| wd (Q.take o) j
  loP : ∀ x ∈ P.drop i, ∀ r ∈ R, r.1 < x.1
  loQ : ∀ y ∈ Q.drop o, ∀ r ∈ R, r.1 < y.1
section
variable {P Q R : List (Nat × Nat)} {i o : Nat}
theorem OrInv.nil (P Q : List (Nat × Nat)) : OrInv P Q [] 0 0 := ⟨Good.nil, fun j => by simp [wd], fun x _ r hr => (by cases hr), fun x _ r hr => (by cases hr)⟩
theorem Good.snoc (h : Good R) {x : Nat × Nat} (hl : ∀ r ∈ R, r.1 < x.1) (h1 : Lt64 x.2 ∧ x.2 ≠ 0 ∧ x.1 < 2 ^ 57) : Good (R ++ [x]) := by
  refine ⟨h.1.app (List.pairwise_singleton _ _) (fun u hu v hv => ?_), fun u hu => ?_⟩
  · have : v = x := by simpa using hv
    subst this; exact hl u hu
  · rcases List.mem_append.1 hu with h2 | h2
    · exact h.2 u h2
    · have : u = x := by simpa using h2
      subst this; exact h1
theorem OrInv.left (h : OrInv P Q R i o) (hP : Good P) {x : Nat × Nat} (hx : P[i]? = some x) (hq : ∀ y ∈ Q.drop o, x.1 < y.1) : OrInv P Q (R ++ [x]) (i + 1) o := by
  have hg := h.good.snoc (h.loP x (drop_mem hx)) (hP.2 x (List.mem_of_getElem? hx))
  refine ⟨hg, fun j => ?_, fun u hu r hr => ?_, fun u hu r hr => ?_⟩
  · rw [wd_app hg.1, h.wds, wd_take hP.1 hx, Nat.or_assoc, Nat.or_assoc, Nat.or_comm (wd (Q.take o) j)]
  · have h1 := drop_lt hP.1 hx u hu
    rcases List.mem_append.1 hr with h2 | h2
    · have := h.loP x (drop_mem hx) r h2; omega
    · have : r = x := by simpa using h2
      subst this; exact h1
  · rcases List.mem_append.1 hr with h2 | h2
    · exact h.loQ u hu r h2
    · have : r = x := by simpa using h2
      subst this; exact hq u hu
theorem OrInv.swap (h : OrInv P Q R i o) : OrInv Q P R o i := ⟨h.good, fun j => by rw [h.wds, Nat.or_comm], h.loQ, h.loP⟩
theorem OrInv.right (h : OrInv P Q R i o) (hQ : Good Q) {y : Nat × Nat} (hy : Q[o]? = some y) (hp : ∀ x ∈ P.drop i, y.1 < x.1) : OrInv P Q (R ++ [y]) i (o + 1) := (h.swap.left hQ hy hp).swap
theorem OrInv.both (h : OrInv P Q R i o) (hP : Good P) (hQ : Good Q) {x y : Nat × Nat} (hx : P[i]? = some x) (hy : Q[o]? = some y) (he : x.1 = y.1) : OrInv P Q (R ++ [(x.1, x.2 ||| y.2)]) (i + 1) (o + 1) := by
  obtain ⟨x1, x2, x3⟩ := hP.2 x (List.mem_of_getElem? hx)
  obtain ⟨y1, y2, y3⟩ := hQ.2 y (List.mem_of_getElem? hy)
  have hg := h.good.snoc (x := (x.1, x.2 ||| y.2)) (h.loP x (drop_mem hx)) ⟨lt64_or x1 y1, fun e => x2 (by
    have e' : x.2 ||| y.2 = 0 := e
    have : x.2 ≤ x.2 ||| y.2 := Nat.left_le_or
    omega), x3⟩
  refine ⟨hg, fun j => ?_, fun u hu r hr => ?_, fun u hu r hr => ?_⟩
  · have e2 : wd [(x.1, x.2 ||| y.2)] j = wd [x] j ||| wd [y] j := by
      have a1 := wd_one x.1 (x.2 ||| y.2) j
      have a2 := wd_one x.1 x.2 j
      have a3 := wd_one y.1 y.2 j
      rw [a1, show wd [x] j = _ from a2, show wd [y] j = _ from a3, ← he]
      by_cases e : j = x.1 <;> simp [e]
    rw [wd_app hg.1, h.wds, wd_take hP.1 hx, wd_take hQ.1 hy, e2]
    generalize wd (P.take i) j = a
    generalize wd (Q.take o) j = b
    generalize wd [x] j = c
    generalize wd [y] j = d
    rw [Nat.or_assoc, Nat.or_assoc, ← Nat.or_assoc b c d, Nat.or_comm b c, Nat.or_assoc c b d]
  · have h1 := drop_lt hP.1 hx u hu
    rcases List.mem_append.1 hr with h2 | h2
    · have := h.loP x (drop_mem hx) r h2; omega
    · have : r = (x.1, x.2 ||| y.2) := by simpa using h2
      subst this; exact h1
  · have h1 := drop_lt hQ.1 hy u hu
    rcases List.mem_append.1 hr with h2 | h2
    · have := h.loQ y (drop_mem hy) r h2; omega
    · have : r = (x.1, x.2 ||| y.2) := by simpa using h2
      subst this
      show x.1 < u.1
      omega
/-- the rest of the first one -/
theorem OrInv.rest (h : OrInv P Q R i o) (hP : Good P) (ho : o = Q.length) : OrInv P Q (R ++ P.drop i) P.length o := by
  have hd : PAsc (P.drop i) := by unfold PAsc; rw [List.map_drop]; exact Asc.drop hP.1 _
  have hg : Good (R ++ P.drop i) := ⟨h.good.1.app hd (fun r hr x hx => h.loP x hx r hr), fun u hu => by
    rcases List.mem_append.1 hu with h1 | h1
    · exact h.good.2 u h1
    · exact hP.2 u (List.mem_of_mem_drop h1)⟩
  refine ⟨hg, fun j => ?_, fun u hu => ?_, fun u hu => ?_⟩
  · rw [wd_app hg.1, h.wds, List.take_of_length_le (Nat.le_refl _), wd_cut hP.1 i j, Nat.or_assoc, Nat.or_assoc, Nat.or_comm (wd (Q.take o) j)]
  · rw [List.drop_of_length_le (Nat.le_refl _)] at hu; cases hu
  · rw [List.drop_of_length_le (by omega)] at hu; cases hu
theorem OrInv.rep (h : OrInv P Q R i o) (hi : i = P.length) (ho : o = Q.length) {a b : List Nat} (ha : Rep (wd P) a) (hb : Rep (wd Q) b) : Rep (wd R) (orL a b) := by
  have hs := orL_spec b ha.1
  refine (rep_or ha hb hs.1 hs.2).congr (fun j => ?_)
  rw [h.wds, List.take_of_length_le (by omega), List.take_of_length_le (by omega)]
end
end Go.Proofs.YtacjkbljokjdkaaGreat.ba

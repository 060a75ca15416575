/-
  A place, and a word, that are taken out of the rows of a sparse array.
-/
import Derived.Test.YtacjkbljokjdkaaGreatMH
namespace Go.Proofs.YtacjkbljokjdkaaGreat.ba
open Go.RowKit Go.Proofs.YtacjkbljokjdkaaGreat.base Go.Proofs.YtacjkbljokjdkaaGreat.heap Go.Proofs.YtacjkbljokjdkaaGreat.rows Go.Proofs.YtacjkbljokjdkaaGreat.bit Go.Proofs.YtacjkbljokjdkaaGreat.bs
set_option linter.unusedVariables false
/-- a part of a row is written over, its end is not -/
theorem own_over2 {e : Nat} {w w' : World} {g n cap off k : Nat} {xs ys : List Value} {cur : Array Value} (h : Own e 1 w (some ⟨g, 0, none⟩) n cap xs) (hb : w.heap[g]? = some (.cells cur e (0, 0))) (hw : w'.heap[g]? = some (.cells (cur.toList.take off ++ ys ++ cur.toList.drop (off + k)).toArray e (0, 0))) (hk : ys.length = k) (hn : off + k ≤ n) (h1 : ∀ u ∈ ys, u.oneCell' = true) :
    Own e 1 w' (some ⟨g, 0, none⟩) n cap (xs.take off ++ ys ++ xs.drop (off + k)) := by
  rcases h.alt with ⟨hc, _⟩ | ⟨b, cur', hb', hbb, hs, ht⟩
  · cases hc
  · cases hb'
    rw [hb] at hbb
    cases hbb
    have hle := h.le
    have hcl : cur.toList.length = cap := by rw [Array.length_toList, hs, Nat.mul_one]
    rw [Nat.mul_one] at ht
    have hx : xs.take off = cur.toList.take off := by rw [← ht, List.take_take]; congr 1; omega
    have hd : xs.drop (off + k) = (cur.toList.drop (off + k)).take (n - (off + k)) := by rw [← ht, List.drop_take]
    have htl : (cur.toList.take off).length = off := by rw [List.length_take, hcl]; omega
    refine ⟨by rw [List.length_append, List.length_append, hx, htl, hk, hd, List.length_take, List.length_drop, hcl]; omega, hle, h.max, fun u hu => ?_, .inr ⟨g, _, rfl, hw, ?_, ?_⟩⟩
    · rcases List.mem_append.1 hu with hu | hu
      · rcases List.mem_append.1 hu with hu | hu
        · exact h.one u (List.mem_of_mem_take hu)
        · exact h1 u hu
      · exact h.one u (List.mem_of_mem_drop hu)
    · simp only [List.size_toArray, List.length_append, List.length_take, List.length_drop, hcl, hk]; omega
    · rw [hx, hd, Nat.mul_one]
      have e1 : (cur.toList.take off ++ ys).length = off + k := by rw [List.length_append, htl, hk]
      have e2 : n = (cur.toList.take off ++ ys).length + (n - (off + k)) := by rw [e1]; omega
      conv => lhs; rw [e2]
      show List.take _ (cur.toList.take off ++ ys ++ cur.toList.drop (off + k)) = _
      rw [List.take_length_add_append]
theorem own_cut {e : Nat} {w : World} {a : Option Addr} {n cap m : Nat} {xs : List Value} (h : Own e 1 w a n cap xs) (hm : m ≤ n) : Own e 1 w a m cap (xs.take m) := by
  refine ⟨by rw [List.length_take, h.len]; omega, by have := h.le; omega, h.max, fun u hu => h.one u (List.mem_of_mem_take hu), ?_⟩
  rcases h.alt with hh | ⟨b, cur, h1, h2, h3, h4⟩
  · exact .inl hh
  · exact .inr ⟨b, cur, h1, h2, h3, by rw [← h4, List.take_take]; congr 1; omega⟩
theorem erase_shift (L : List Nat) (i : Nat) (h : i < L.length) : ((L.take i ++ L.drop (i + 1) ++ L.drop (L.length - 1)).set (L.length - 1) 0).take (L.length - 1) = L.eraseIdx i := by
  have hl : (L.take i ++ L.drop (i + 1)).length = L.length - 1 := by rw [List.length_append, List.length_take, List.length_drop]; omega
  rw [List.take_set_of_le (Nat.le_refl _), ← hl, List.take_left, List.eraseIdx_eq_take_drop_succ]
section
variable {w : World} {p o n c : Nat} {cs : Array Value} {t : TypeId} {a : Option Addr} {L : List Nat}
set_option maxRecDepth 100000 in
set_option maxHeartbeats 3200000 in
theorem delB (hp : w.heap[p]? = some (.cells cs t (0, 0))) (ho : cs[o]? = some (.slice a n c)) (h : Own 74 1 w a n c (U L)) (hL : L.length = n) (hna : ¬ At a p) (i : Nat) (hal : i < n) (hn : n ≤ 1000000) :
    Calls Tryz.prog 89 #[.pointer (some ⟨p, o, none⟩), .int .i64 (i : Int)] w (RowP p o 74 cs t a (L.eraseIdx i) (.tuple #[]) w) := by
  have c0 : w.cell? ⟨p, o, none⟩ = some (.slice a n c) := block_cell hp ho
  have hbd := h.bound
  have HP := Lib.hid (And.intro hp (And.intro ho (And.intro h (And.intro hL hna))))
  have hpl := lt_of_heap hp
  obtain ⟨b, ha, hb, hc⟩ := h.at (by omega)
  subst ha
  have hbp : b ≠ p := fun e => hna (by rw [← e]; exact rfl)
  obtain ⟨cur, hcur, hcs⟩ := own_block h
  have HCUR := Lib.hid hcur
  have hi0 : (0 : Int) ≤ (i : Int) := by omega
  have hi1 : (i : Int) < (n : Int) := by omega
  have g1 : ¬ c = i := by omega
  have g3 : (i : Int) + 1 ≤ (c : Int) := by omega
  have g4 : (i : Int) ≤ (c : Int) := by omega
  have g5 : IntKind.i64.wrap ((i : Int) + 1) = (i : Int) + 1 := IntWalk.i64_in _ (by omega)
  have g6 : ((i : Int) + 1).toNat = i + 1 := by omega
  have g7 : (i : Int) + 1 ≤ (n : Int) := by omega
  have g8 : (i : Int) ≤ (n : Int) := by omega
  have g9 : (0 : Int) ≤ (i : Int) + 1 := by omega
  have HFIT : Hid (i + (n - i) ≤ cur.size) := Lib.hid (by omega)
  have HK : Hid (n - (i + 1) = min (n - (i + 1)) (n - i)) := Lib.hid (by omega)
  have HAFT : Hid (∀ w5, w5.heap[b]? = some (.cells (cur.toList.take i ++ ((U L).drop (i + 1)).take (n - (i + 1)) ++ cur.toList.drop (i + (n - (i + 1)))).toArray 74 (0, 0)) → Own 74 1 w5 (some ⟨b, 0, none⟩) n c (U (L.take i ++ L.drop (i + 1) ++ L.drop (n - 1)))) := Lib.hid (fun w5 hw5 => by
    have e1 : ((U L).drop (i + 1)).take (n - (i + 1)) = U (L.drop (i + 1)) := by
      rw [List.take_of_length_le (by rw [List.length_drop, U_len, hL]; omega)]; simp [U, List.map_drop]
    rw [e1] at hw5
    have := own_over2 h hcur hw5 (by rw [U_len, List.length_drop, hL]) (by omega) (U_one _)
    have e2 : (U L).take i ++ U (L.drop (i + 1)) ++ (U L).drop (i + (n - (i + 1))) = U (L.take i ++ L.drop (i + 1) ++ L.drop (n - 1)) := by
      rw [show i + (n - (i + 1)) = n - 1 by omega]; simp [U, List.map_drop, List.map_take]
    rw [e2] at this
    exact this)
  have HFIN : Hid (∀ w5 w7, Only (fun j => j = b) w w5 → Own 74 1 w5 (some ⟨b, 0, none⟩) n c (U (L.take i ++ L.drop (i + 1) ++ L.drop (n - 1))) → w7 = (w5.setCell ⟨b, n - 1, none⟩ (.int .u64 0)) → ∀ w8, Only (fun _ => False) w7 w8 → ∀ w9, w9 = w8.setCell ⟨p, o, none⟩ (.slice (some ⟨b, 0, none⟩) (n - 1) c) → ∀ w10, Only (fun _ => False) w9 w10 → RowP p o 74 cs t (some ⟨b, 0, none⟩) (L.eraseIdx i) (.tuple #[]) w (.returned (.tuple #[])) w10) := Lib.hid (fun w5 w7 ho5 hown e7 w8 h8 w9 e9 w10 h10 => by
    have hO7 : Only (fun j => j = b) w5 w7 := by rw [e7]; exact (Only.refl _ _).setCell _ _ (fun _ => rfl)
    have hO9 : Only (fun j => j = p) w8 w9 := by rw [e9]; exact (Only.refl _ _).setCell _ _ (fun _ => rfl)
    have hlen : (L.eraseIdx i).length = n - 1 := by rw [List.length_eraseIdx, if_pos (by omega), hL]
    have hp8 := h8.obj (hO7.obj (ho5.obj hp (fun e => hbp e.symm)) (fun e => hbp e.symm)) id
    have hown7 := hown.set rfl (n - 1) (.int .u64 0) rfl (by omega)
    rw [← e7] at hown7
    have hown10 := own_cut (((hown7.keep h8 (fun _ _ => id)).keep hO9 (fun k hk e => hbp (by
      have : b = k := hk
      rw [this]; exact e))).keep h10 (fun _ _ => id)) (m := n - 1) (by omega)
    have e3 : ((U (L.take i ++ L.drop (i + 1) ++ L.drop (n - 1))).set (n - 1) (.int .u64 0)).take (n - 1) = U (L.eraseIdx i) := by
      have := erase_shift L i (by omega)
      rw [hL] at this
      rw [← this]
      simp only [U, List.map_set, List.map_take]; rfl
    rw [e3] at hown10
    refine ⟨some ⟨b, 0, none⟩, c, rfl, ?_, by rw [hlen]; exact hown10, ?_, fun k hk => .inl hk⟩
    · rw [hlen]; exact h10.obj (by rw [e9]; exact setCell_heap hp8 o _) id
    · exact ((((ho5.mono (fun k _ e => .inr (by rw [e]; exact rfl))).trans hO7 (fun k _ e => .inr (by rw [e]; exact rfl))).trans h8 (fun _ _ f => f.elim)).trans hO9 (fun k _ e => .inl e)).trans h10 (fun _ _ f => f.elim))
  have HRS : Hid (¬ c = i + 1 → Rd 1 w (some ⟨b, i + 1, none⟩) (n - (i + 1)) (c - (i + 1)) ((U L).drop (i + 1))) := Lib.hid (fun _ => by
    have := h.rd.drop (k := i + 1) (by omega)
    rw [Nat.mul_one, Nat.zero_add] at this
    exact this)
  have HRS0 : Hid (c = i + 1 → Rd 1 w (some ⟨b, 0, none⟩) (n - (i + 1)) (c - (i + 1)) ((U L).drop (i + 1))) := Lib.hid (fun hc1 => by
    have h1 : n = i + 1 := by omega
    have := h.rd.take (k := 0) (c := 0) (by omega) (by omega) (by omega)
    rw [show n - (i + 1) = 0 by omega, show c - (i + 1) = 0 by omega, List.drop_of_length_le (by rw [U_len, hL]; omega)]
    simpa using this)
  clear hp ho h hL hna hcur hc
  by_cases hc1 : c = i + 1
  · have HR := Lib.hid (HRS0.out hc1)
    clear HRS HRS0
    obtain rfl : c = n := by omega
    have e0 : c - (i + 1) = 0 := by omega
    rw [e0] at HAFT HK HR
    have hc2 : i + 1 = c := hc1.symm
    clear hc1 e0
    go_enter Tryz.func89, Tryz.ntmps89
    go_wp2_with fail
    refine wp_region_still_tail 11 (by kernel_rfl) (by kernel_rfl) ?_
    simp only [List.take_succ_cons, List.take_zero, List.drop_succ_cons, List.drop_zero]
    repeat still_step
    refine wpStill_nil ?_
    refine wpList_copy 0 rfl _ _ _ _ rfl slBl rfl HCUR.out rfl (HR.out.of_heap rfl) HK.out HFIT.out ?_
    intro w5 hw5 ho5
    have hO5 : Only (fun j => j = b) w w5 := ⟨ho5.os, ho5.tape, ho5.output, ho5.size, ho5.block⟩
    have hown5 := HAFT.out w5 hw5
    have hp5 := hO5.obj HP.out.1 (fun e => hbp e.symm)
    have d5 : w5.cell? ⟨p, o, none⟩ = some (.slice (some ⟨b, 0, none⟩) c c) := block_cell hp5 HP.out.2.1
    have f5 : w5.frozen? ⟨b, c - 1, none⟩ = false := hown5.frozen rfl (c - 1)
    obtain ⟨_, q5, _, hc5⟩ := hown5.at (by omega)
    cases q5
    have g5' := hc5.at (c - 1) (by rw [hown5.len]; omega)
    rw [Nat.zero_add] at g5'
    generalize (U (L.take i ++ L.drop (i + 1) ++ L.drop (c - 1)))[c - 1]'(by rw [hown5.len]; omega) = z5 at g5'
    have HOW5 := Lib.hid (And.intro hO5 hown5)
    obtain ⟨m, HM⟩ : ∃ m, Hid (c - 1 = m) := ⟨_, Lib.hid rfl⟩
    have hnm : c = m + 1 := by have := HM.out; omega
    rw [HM.out] at f5 g5' HFIN HOW5
    have k1 : IntKind.i64.wrap ((c : Int) - 1) = (m : Int) := by rw [IntWalk.i64_in _ (by omega)]; omega
    have k2 : (m : Int) < (c : Int) := by omega
    have k3 : (m : Int) ≤ (c : Int) := by omega
    have k4 : (m : Int) ≤ (c : Int) := by omega
    have HNM := Lib.hid hnm
    clear hw5 ho5 hO5 hown5 hp5 hc5 hnm g1 g3 g4 g5 g6 g7 g8 g9 HR HAFT HFIT HK
    go_wp2_with fail
    refine wp_region_still_tail 9 (by kernel_rfl) (by kernel_rfl) ?_
    simp only [List.take_succ_cons, List.take_zero, List.drop_succ_cons, List.drop_zero]
    repeat still_step
    refine wpStill_nil ?_
    obtain ⟨w7, hw7⟩ : ∃ w7, w7 = w5.setCell ⟨b, m, none⟩ (.int .u64 0) := ⟨_, rfl⟩
    have hO7 : Only (fun j => j = b) w5 w7 := by rw [hw7]; exact (Only.refl _ _).setCell _ _ (fun _ => rfl)
    have hp7 := hO7.obj (HOW5.out.1.obj HP.out.1 (fun e => hbp e.symm)) (fun e => hbp e.symm)
    have d7 : w7.cell? ⟨p, o, none⟩ = some (.slice (some ⟨b, 0, none⟩) c c) := block_cell hp7 HP.out.2.1
    have f7 : w7.frozen? ⟨p, o, none⟩ = false := block_free hp7
    have HW7 := Lib.hid hw7
    clear hO7 hp7 hw7
    go_upto_region 2 with fail
    rw [← HW7.out]
    obtain ⟨w8, hw8⟩ : ∃ w8, w8 = w7.drew := ⟨_, rfl⟩
    have HW8 : Hid (Only (fun _ => False) w7 w8) := Lib.hid (by rw [hw8]; exact (Only.refl _ _).drew)
    have d8 : w8.cell? ⟨p, o, none⟩ = some (.slice (some ⟨b, 0, none⟩) c c) := by rw [hw8]; exact d7
    have f8 : w8.frozen? ⟨p, o, none⟩ = false := by rw [hw8]; exact f7
    rw [← hw8]
    clear hw8 d7 f7 d5 f5 g5' c0
    refine wp_region_still_tail 11 (by kernel_rfl) (by kernel_rfl) ?_
    simp only [List.take_succ_cons, List.take_zero, List.drop_succ_cons, List.drop_zero]
    repeat still_step
    refine wpStill_nil ?_
    go_wp2_with fail
    go_end0
    exact HFIN.out w5 w7 HOW5.out.1 HOW5.out.2 HW7.out w8.drew (HW8.out.drew) _ rfl _ (Only.refl _ _)
  · have HR := Lib.hid (HRS.out hc1)
    clear HRS HRS0
    go_enter Tryz.func89, Tryz.ntmps89
    go_wp2_with fail
    refine wp_region_still_tail 11 (by kernel_rfl) (by kernel_rfl) ?_
    simp only [List.take_succ_cons, List.take_zero, List.drop_succ_cons, List.drop_zero]
    repeat still_step
    refine wpStill_nil ?_
    refine wpList_copy (n - (i + 1)) rfl _ _ _ _ rfl slBl rfl HCUR.out rfl (HR.out.of_heap rfl) HK.out HFIT.out ?_
    intro w5 hw5 ho5
    have hO5 : Only (fun j => j = b) w w5 := ⟨ho5.os, ho5.tape, ho5.output, ho5.size, ho5.block⟩
    have hown5 := HAFT.out w5 hw5
    have hp5 := hO5.obj HP.out.1 (fun e => hbp e.symm)
    have d5 : w5.cell? ⟨p, o, none⟩ = some (.slice (some ⟨b, 0, none⟩) n c) := block_cell hp5 HP.out.2.1
    have f5 : w5.frozen? ⟨b, n - 1, none⟩ = false := hown5.frozen rfl (n - 1)
    obtain ⟨_, q5, _, hc5⟩ := hown5.at (by omega)
    cases q5
    have g5' := hc5.at (n - 1) (by rw [hown5.len]; omega)
    rw [Nat.zero_add] at g5'
    generalize (U (L.take i ++ L.drop (i + 1) ++ L.drop (n - 1)))[n - 1]'(by rw [hown5.len]; omega) = z5 at g5'
    have HOW5 := Lib.hid (And.intro hO5 hown5)
    obtain ⟨m, HM⟩ : ∃ m, Hid (n - 1 = m) := ⟨_, Lib.hid rfl⟩
    have hnm : n = m + 1 := by have := HM.out; omega
    rw [HM.out] at f5 g5' HFIN HOW5
    have k1 : IntKind.i64.wrap ((n : Int) - 1) = (m : Int) := by rw [IntWalk.i64_in _ (by omega)]; omega
    have k2 : (m : Int) < (n : Int) := by omega
    have k3 : (m : Int) ≤ (n : Int) := by omega
    have k4 : (m : Int) ≤ (c : Int) := by omega
    have HNM := Lib.hid hnm
    clear hw5 ho5 hO5 hown5 hp5 hc5 hnm g1 g3 g4 g5 g6 g7 g8 g9 HR HAFT HFIT HK
    go_wp2_with fail
    refine wp_region_still_tail 9 (by kernel_rfl) (by kernel_rfl) ?_
    simp only [List.take_succ_cons, List.take_zero, List.drop_succ_cons, List.drop_zero]
    repeat still_step
    refine wpStill_nil ?_
    obtain ⟨w7, hw7⟩ : ∃ w7, w7 = w5.setCell ⟨b, m, none⟩ (.int .u64 0) := ⟨_, rfl⟩
    have hO7 : Only (fun j => j = b) w5 w7 := by rw [hw7]; exact (Only.refl _ _).setCell _ _ (fun _ => rfl)
    have hp7 := hO7.obj (HOW5.out.1.obj HP.out.1 (fun e => hbp e.symm)) (fun e => hbp e.symm)
    have d7 : w7.cell? ⟨p, o, none⟩ = some (.slice (some ⟨b, 0, none⟩) n c) := block_cell hp7 HP.out.2.1
    have f7 : w7.frozen? ⟨p, o, none⟩ = false := block_free hp7
    have HW7 := Lib.hid hw7
    clear hO7 hp7 hw7
    go_upto_region 2 with fail
    rw [← HW7.out]
    obtain ⟨w8, hw8⟩ : ∃ w8, w8 = w7.drew := ⟨_, rfl⟩
    have HW8 : Hid (Only (fun _ => False) w7 w8) := Lib.hid (by rw [hw8]; exact (Only.refl _ _).drew)
    have d8 : w8.cell? ⟨p, o, none⟩ = some (.slice (some ⟨b, 0, none⟩) n c) := by rw [hw8]; exact d7
    have f8 : w8.frozen? ⟨p, o, none⟩ = false := by rw [hw8]; exact f7
    rw [← hw8]
    clear hw8 d7 f7 d5 f5 g5' c0
    refine wp_region_still_tail 11 (by kernel_rfl) (by kernel_rfl) ?_
    simp only [List.take_succ_cons, List.take_zero, List.drop_succ_cons, List.drop_zero]
    repeat still_step
    refine wpStill_nil ?_
    go_wp2_with fail
    go_end0
    exact HFIN.out w5 w7 HOW5.out.1 HOW5.out.2 HW7.out w8.drew (HW8.out.drew) _ rfl _ (Only.refl _ _)
set_option maxRecDepth 100000 in
set_option maxHeartbeats 3200000 in
theorem delU (hp : w.heap[p]? = some (.cells cs t (0, 0))) (ho : cs[o]? = some (.slice a n c)) (h : Own 34 1 w a n c (U L)) (hL : L.length = n) (hna : ¬ At a p) (i : Nat) (hal : i < n) (hn : n ≤ 1000000) :
    Calls Tryz.prog 90 #[.pointer (some ⟨p, o, none⟩), .int .i64 (i : Int)] w (RowP p o 34 cs t a (L.eraseIdx i) (.tuple #[]) w) := by
  have c0 : w.cell? ⟨p, o, none⟩ = some (.slice a n c) := block_cell hp ho
  have hbd := h.bound
  have HP := Lib.hid (And.intro hp (And.intro ho (And.intro h (And.intro hL hna))))
  have hpl := lt_of_heap hp
  obtain ⟨b, ha, hb, hc⟩ := h.at (by omega)
  subst ha
  have hbp : b ≠ p := fun e => hna (by rw [← e]; exact rfl)
  obtain ⟨cur, hcur, hcs⟩ := own_block h
  have HCUR := Lib.hid hcur
  have hi0 : (0 : Int) ≤ (i : Int) := by omega
  have hi1 : (i : Int) < (n : Int) := by omega
  have g1 : ¬ c = i := by omega
  have g3 : (i : Int) + 1 ≤ (c : Int) := by omega
  have g4 : (i : Int) ≤ (c : Int) := by omega
  have g5 : IntKind.i64.wrap ((i : Int) + 1) = (i : Int) + 1 := IntWalk.i64_in _ (by omega)
  have g6 : ((i : Int) + 1).toNat = i + 1 := by omega
  have g7 : (i : Int) + 1 ≤ (n : Int) := by omega
  have g8 : (i : Int) ≤ (n : Int) := by omega
  have g9 : (0 : Int) ≤ (i : Int) + 1 := by omega
  have HFIT : Hid (i + (n - i) ≤ cur.size) := Lib.hid (by omega)
  have HK : Hid (n - (i + 1) = min (n - (i + 1)) (n - i)) := Lib.hid (by omega)
  have HAFT : Hid (∀ w5, w5.heap[b]? = some (.cells (cur.toList.take i ++ ((U L).drop (i + 1)).take (n - (i + 1)) ++ cur.toList.drop (i + (n - (i + 1)))).toArray 34 (0, 0)) → Own 34 1 w5 (some ⟨b, 0, none⟩) n c (U (L.take i ++ L.drop (i + 1) ++ L.drop (n - 1)))) := Lib.hid (fun w5 hw5 => by
    have e1 : ((U L).drop (i + 1)).take (n - (i + 1)) = U (L.drop (i + 1)) := by
      rw [List.take_of_length_le (by rw [List.length_drop, U_len, hL]; omega)]; simp [U, List.map_drop]
    rw [e1] at hw5
    have := own_over2 h hcur hw5 (by rw [U_len, List.length_drop, hL]) (by omega) (U_one _)
    have e2 : (U L).take i ++ U (L.drop (i + 1)) ++ (U L).drop (i + (n - (i + 1))) = U (L.take i ++ L.drop (i + 1) ++ L.drop (n - 1)) := by
      rw [show i + (n - (i + 1)) = n - 1 by omega]; simp [U, List.map_drop, List.map_take]
    rw [e2] at this
    exact this)
  have HFIN : Hid (∀ w5 w7, Only (fun j => j = b) w w5 → Own 34 1 w5 (some ⟨b, 0, none⟩) n c (U (L.take i ++ L.drop (i + 1) ++ L.drop (n - 1))) → w7 = (w5.setCell ⟨b, n - 1, none⟩ (.int .u64 0)) → ∀ w8, Only (fun _ => False) w7 w8 → ∀ w9, w9 = w8.setCell ⟨p, o, none⟩ (.slice (some ⟨b, 0, none⟩) (n - 1) c) → ∀ w10, Only (fun _ => False) w9 w10 → RowP p o 34 cs t (some ⟨b, 0, none⟩) (L.eraseIdx i) (.tuple #[]) w (.returned (.tuple #[])) w10) := Lib.hid (fun w5 w7 ho5 hown e7 w8 h8 w9 e9 w10 h10 => by
    have hO7 : Only (fun j => j = b) w5 w7 := by rw [e7]; exact (Only.refl _ _).setCell _ _ (fun _ => rfl)
    have hO9 : Only (fun j => j = p) w8 w9 := by rw [e9]; exact (Only.refl _ _).setCell _ _ (fun _ => rfl)
    have hlen : (L.eraseIdx i).length = n - 1 := by rw [List.length_eraseIdx, if_pos (by omega), hL]
    have hp8 := h8.obj (hO7.obj (ho5.obj hp (fun e => hbp e.symm)) (fun e => hbp e.symm)) id
    have hown7 := hown.set rfl (n - 1) (.int .u64 0) rfl (by omega)
    rw [← e7] at hown7
    have hown10 := own_cut (((hown7.keep h8 (fun _ _ => id)).keep hO9 (fun k hk e => hbp (by
      have : b = k := hk
      rw [this]; exact e))).keep h10 (fun _ _ => id)) (m := n - 1) (by omega)
    have e3 : ((U (L.take i ++ L.drop (i + 1) ++ L.drop (n - 1))).set (n - 1) (.int .u64 0)).take (n - 1) = U (L.eraseIdx i) := by
      have := erase_shift L i (by omega)
      rw [hL] at this
      rw [← this]
      simp only [U, List.map_set, List.map_take]; rfl
    rw [e3] at hown10
    refine ⟨some ⟨b, 0, none⟩, c, rfl, ?_, by rw [hlen]; exact hown10, ?_, fun k hk => .inl hk⟩
    · rw [hlen]; exact h10.obj (by rw [e9]; exact setCell_heap hp8 o _) id
    · exact ((((ho5.mono (fun k _ e => .inr (by rw [e]; exact rfl))).trans hO7 (fun k _ e => .inr (by rw [e]; exact rfl))).trans h8 (fun _ _ f => f.elim)).trans hO9 (fun k _ e => .inl e)).trans h10 (fun _ _ f => f.elim))
  have HRS : Hid (¬ c = i + 1 → Rd 1 w (some ⟨b, i + 1, none⟩) (n - (i + 1)) (c - (i + 1)) ((U L).drop (i + 1))) := Lib.hid (fun _ => by
    have := h.rd.drop (k := i + 1) (by omega)
    rw [Nat.mul_one, Nat.zero_add] at this
    exact this)
  have HRS0 : Hid (c = i + 1 → Rd 1 w (some ⟨b, 0, none⟩) (n - (i + 1)) (c - (i + 1)) ((U L).drop (i + 1))) := Lib.hid (fun hc1 => by
    have h1 : n = i + 1 := by omega
    have := h.rd.take (k := 0) (c := 0) (by omega) (by omega) (by omega)
    rw [show n - (i + 1) = 0 by omega, show c - (i + 1) = 0 by omega, List.drop_of_length_le (by rw [U_len, hL]; omega)]
    simpa using this)
  clear hp ho h hL hna hcur hc
  by_cases hc1 : c = i + 1
  · have HR := Lib.hid (HRS0.out hc1)
    clear HRS HRS0
    obtain rfl : c = n := by omega
    have e0 : c - (i + 1) = 0 := by omega
    rw [e0] at HAFT HK HR
    have hc2 : i + 1 = c := hc1.symm
    clear hc1 e0
    go_enter Tryz.func90, Tryz.ntmps90
    go_wp2_with fail
    refine wp_region_still_tail 11 (by kernel_rfl) (by kernel_rfl) ?_
    simp only [List.take_succ_cons, List.take_zero, List.drop_succ_cons, List.drop_zero]
    repeat still_step
    refine wpStill_nil ?_
    refine wpList_copy 0 rfl _ _ _ _ rfl slIdx rfl HCUR.out rfl (HR.out.of_heap rfl) HK.out HFIT.out ?_
    intro w5 hw5 ho5
    have hO5 : Only (fun j => j = b) w w5 := ⟨ho5.os, ho5.tape, ho5.output, ho5.size, ho5.block⟩
    have hown5 := HAFT.out w5 hw5
    have hp5 := hO5.obj HP.out.1 (fun e => hbp e.symm)
    have d5 : w5.cell? ⟨p, o, none⟩ = some (.slice (some ⟨b, 0, none⟩) c c) := block_cell hp5 HP.out.2.1
    have f5 : w5.frozen? ⟨b, c - 1, none⟩ = false := hown5.frozen rfl (c - 1)
    obtain ⟨_, q5, _, hc5⟩ := hown5.at (by omega)
    cases q5
    have g5' := hc5.at (c - 1) (by rw [hown5.len]; omega)
    rw [Nat.zero_add] at g5'
    generalize (U (L.take i ++ L.drop (i + 1) ++ L.drop (c - 1)))[c - 1]'(by rw [hown5.len]; omega) = z5 at g5'
    have HOW5 := Lib.hid (And.intro hO5 hown5)
    obtain ⟨m, HM⟩ : ∃ m, Hid (c - 1 = m) := ⟨_, Lib.hid rfl⟩
    have hnm : c = m + 1 := by have := HM.out; omega
    rw [HM.out] at f5 g5' HFIN HOW5
    have k1 : IntKind.i64.wrap ((c : Int) - 1) = (m : Int) := by rw [IntWalk.i64_in _ (by omega)]; omega
    have k2 : (m : Int) < (c : Int) := by omega
    have k3 : (m : Int) ≤ (c : Int) := by omega
    have k4 : (m : Int) ≤ (c : Int) := by omega
    have HNM := Lib.hid hnm
    clear hw5 ho5 hO5 hown5 hp5 hc5 hnm g1 g3 g4 g5 g6 g7 g8 g9 HR HAFT HFIT HK
    go_wp2_with fail
    refine wp_region_still_tail 9 (by kernel_rfl) (by kernel_rfl) ?_
    simp only [List.take_succ_cons, List.take_zero, List.drop_succ_cons, List.drop_zero]
    repeat still_step
    refine wpStill_nil ?_
    obtain ⟨w7, hw7⟩ : ∃ w7, w7 = w5.setCell ⟨b, m, none⟩ (.int .u64 0) := ⟨_, rfl⟩
    have hO7 : Only (fun j => j = b) w5 w7 := by rw [hw7]; exact (Only.refl _ _).setCell _ _ (fun _ => rfl)
    have hp7 := hO7.obj (HOW5.out.1.obj HP.out.1 (fun e => hbp e.symm)) (fun e => hbp e.symm)
    have d7 : w7.cell? ⟨p, o, none⟩ = some (.slice (some ⟨b, 0, none⟩) c c) := block_cell hp7 HP.out.2.1
    have f7 : w7.frozen? ⟨p, o, none⟩ = false := block_free hp7
    have HW7 := Lib.hid hw7
    clear hO7 hp7 hw7
    go_upto_region 2 with fail
    rw [← HW7.out]
    obtain ⟨w8, hw8⟩ : ∃ w8, w8 = w7.drew := ⟨_, rfl⟩
    have HW8 : Hid (Only (fun _ => False) w7 w8) := Lib.hid (by rw [hw8]; exact (Only.refl _ _).drew)
    have d8 : w8.cell? ⟨p, o, none⟩ = some (.slice (some ⟨b, 0, none⟩) c c) := by rw [hw8]; exact d7
    have f8 : w8.frozen? ⟨p, o, none⟩ = false := by rw [hw8]; exact f7
    rw [← hw8]
    clear hw8 d7 f7 d5 f5 g5' c0
    refine wp_region_still_tail 11 (by kernel_rfl) (by kernel_rfl) ?_
    simp only [List.take_succ_cons, List.take_zero, List.drop_succ_cons, List.drop_zero]
    repeat still_step
    refine wpStill_nil ?_
    go_wp2_with fail
    go_end0
    exact HFIN.out w5 w7 HOW5.out.1 HOW5.out.2 HW7.out w8.drew (HW8.out.drew) _ rfl _ (Only.refl _ _)
  · have HR := Lib.hid (HRS.out hc1)
    clear HRS HRS0
    go_enter Tryz.func90, Tryz.ntmps90
    go_wp2_with fail
    refine wp_region_still_tail 11 (by kernel_rfl) (by kernel_rfl) ?_
    simp only [List.take_succ_cons, List.take_zero, List.drop_succ_cons, List.drop_zero]
    repeat still_step
    refine wpStill_nil ?_
    refine wpList_copy (n - (i + 1)) rfl _ _ _ _ rfl slIdx rfl HCUR.out rfl (HR.out.of_heap rfl) HK.out HFIT.out ?_
    intro w5 hw5 ho5
    have hO5 : Only (fun j => j = b) w w5 := ⟨ho5.os, ho5.tape, ho5.output, ho5.size, ho5.block⟩
    have hown5 := HAFT.out w5 hw5
    have hp5 := hO5.obj HP.out.1 (fun e => hbp e.symm)
    have d5 : w5.cell? ⟨p, o, none⟩ = some (.slice (some ⟨b, 0, none⟩) n c) := block_cell hp5 HP.out.2.1
    have f5 : w5.frozen? ⟨b, n - 1, none⟩ = false := hown5.frozen rfl (n - 1)
    obtain ⟨_, q5, _, hc5⟩ := hown5.at (by omega)
    cases q5
    have g5' := hc5.at (n - 1) (by rw [hown5.len]; omega)
    rw [Nat.zero_add] at g5'
    generalize (U (L.take i ++ L.drop (i + 1) ++ L.drop (n - 1)))[n - 1]'(by rw [hown5.len]; omega) = z5 at g5'
    have HOW5 := Lib.hid (And.intro hO5 hown5)
    obtain ⟨m, HM⟩ : ∃ m, Hid (n - 1 = m) := ⟨_, Lib.hid rfl⟩
    have hnm : n = m + 1 := by have := HM.out; omega
    rw [HM.out] at f5 g5' HFIN HOW5
    have k1 : IntKind.i64.wrap ((n : Int) - 1) = (m : Int) := by rw [IntWalk.i64_in _ (by omega)]; omega
    have k2 : (m : Int) < (n : Int) := by omega
    have k3 : (m : Int) ≤ (n : Int) := by omega
    have k4 : (m : Int) ≤ (c : Int) := by omega
    have HNM := Lib.hid hnm
    clear hw5 ho5 hO5 hown5 hp5 hc5 hnm g1 g3 g4 g5 g6 g7 g8 g9 HR HAFT HFIT HK
    go_wp2_with fail
    refine wp_region_still_tail 9 (by kernel_rfl) (by kernel_rfl) ?_
    simp only [List.take_succ_cons, List.take_zero, List.drop_succ_cons, List.drop_zero]
    repeat still_step
    refine wpStill_nil ?_
    obtain ⟨w7, hw7⟩ : ∃ w7, w7 = w5.setCell ⟨b, m, none⟩ (.int .u64 0) := ⟨_, rfl⟩
    have hO7 : Only (fun j => j = b) w5 w7 := by rw [hw7]; exact (Only.refl _ _).setCell _ _ (fun _ => rfl)
    have hp7 := hO7.obj (HOW5.out.1.obj HP.out.1 (fun e => hbp e.symm)) (fun e => hbp e.symm)
    have d7 : w7.cell? ⟨p, o, none⟩ = some (.slice (some ⟨b, 0, none⟩) n c) := block_cell hp7 HP.out.2.1
    have f7 : w7.frozen? ⟨p, o, none⟩ = false := block_free hp7
    have HW7 := Lib.hid hw7
    clear hO7 hp7 hw7
    go_upto_region 2 with fail
    rw [← HW7.out]
    obtain ⟨w8, hw8⟩ : ∃ w8, w8 = w7.drew := ⟨_, rfl⟩
    have HW8 : Hid (Only (fun _ => False) w7 w8) := Lib.hid (by rw [hw8]; exact (Only.refl _ _).drew)
    have d8 : w8.cell? ⟨p, o, none⟩ = some (.slice (some ⟨b, 0, none⟩) n c) := by rw [hw8]; exact d7
    have f8 : w8.frozen? ⟨p, o, none⟩ = false := by rw [hw8]; exact f7
    rw [← hw8]
    clear hw8 d7 f7 d5 f5 g5' c0
    refine wp_region_still_tail 11 (by kernel_rfl) (by kernel_rfl) ?_
    simp only [List.take_succ_cons, List.take_zero, List.drop_succ_cons, List.drop_zero]
    repeat still_step
    refine wpStill_nil ?_
    go_wp2_with fail
    go_end0
    exact HFIN.out w5 w7 HOW5.out.1 HOW5.out.2 HW7.out w8.drew (HW8.out.drew) _ rfl _ (Only.refl _ _)
end
end Go.Proofs.YtacjkbljokjdkaaGreat.ba

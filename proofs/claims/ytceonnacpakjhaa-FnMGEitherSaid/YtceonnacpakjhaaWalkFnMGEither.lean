/-
  FnMGEither: the walk.
-/
import Derived.Test.YtceonnacpakjhaaMgSorted
import Derived.Test.YtceonnacpakjhaaRead
namespace Go.Proofs.Ytceonnacpakjhaa.walkFnMGEither
open Go.RowKit Go.Proofs.Ytceonnacpakjhaa.base Go.Proofs.Ytceonnacpakjhaa.heap Go.Proofs.Ytceonnacpakjhaa.rows Go.Proofs.Ytceonnacpakjhaa.pq Go.Proofs.Ytceonnacpakjhaa.mg
set_option linter.unusedVariables false

theorem keys_eq {A B : List It} (ha : Sorted A) (hb : Sorted B) (hp : A.Perm B) (i : Nat) : kAt A i = kAt B i := by
  have h1 : (A.map (·.key)) = (B.map (·.key)) := List.Perm.eq_of_pairwise (le := (· ≤ ·)) (fun _ _ _ _ h h' => Int.le_antisymm h h') (List.pairwise_map.2 ha) (List.pairwise_map.2 hb) (hp.map _)
  have h2 : (A.map (·.key))[i]? = (B.map (·.key))[i]? := by rw [h1]
  have h3 := hp.length_eq
  rw [List.getElem?_map, List.getElem?_map] at h2
  by_cases hi : i < A.length
  · rw [List.getElem?_eq_getElem hi, List.getElem?_eq_getElem (by omega)] at h2
    rw [kAt_eq (List.getElem?_eq_getElem hi), kAt_eq (List.getElem?_eq_getElem (show i < B.length by omega))]
    simpa using h2
  · simp [kAt, List.getD_eq_getElem?_getD, List.getElem?_eq_none (show A.length ≤ i by omega), List.getElem?_eq_none (show B.length ≤ i by omega)]

theorem read_it {W : World} {cs : List Value} (hl : cs.length = 2) (h : T Try.prog W 25 cs) : ∃ x : It, cs = itc x ∧ True := by
  match cs, hl with
  | [v0, v1], _ =>
    have h0 := h.field Try.underlying25 0 _ rfl
    have h1 := h.field Try.underlying25 1 _ rfl
    obtain ⟨k, rfl, _⟩ := h0.int Try.underlying3
    obtain ⟨t, rfl, _⟩ := h1.int Try.underlying3
    exact ⟨⟨k, t⟩, rfl, trivial⟩
theorem read_items {W : World} {v : Value} (h : Reads Try.prog W 22 v) : ∃ (a : Option Addr) (n cap : Nat) (l : List It), v = .slice a n cap ∧ RS itc 2 W a n cap l := by
  obtain ⟨a, n, cap, l, rfl, h, _⟩ := T.slice (c := itc) (K := 2) (fun _ => True) itc_len itc_one (by omega) Try.underlying22 (by kernel_rfl) (fun cs hl ht => read_it hl ht) (reads_t h Try.underlying22)
  exact ⟨a, n, cap, l, rfl, h⟩

/-- a list that was handed back -/
structure Got (w : World) (a : Option Addr) (n cap : Nat) (L : List It) : Prop where
  rs : RS itc 2 w a n cap L
  so : Sorted L
theorem Got.still {w w' : World} {a : Option Addr} {n cap : Nat} {L : List It} (h : Got w a n cap L) (hs : Same w w') : Got w' a n cap L := ⟨h.rs.still hs, h.so⟩

set_option maxRecDepth 100000 in
set_option maxHeartbeats 3200000 in
theorem main (a1 a2 a3 : Option Addr) (n1 n2 n3 c1 c2 c3 : Nat) (U V Z : List It) (w : World) (h1 : RS itc 2 w a1 n1 c1 U) (h2 : RS itc 2 w a2 n2 c2 V) (h3 : RS itc 2 w a3 n3 c3 Z) (b1 : n1 ≤ 25) (b2 : n2 ≤ 25) (b3 : n3 ≤ 25) :
    Calls Try.prog 3 #[.slice a1 n1 c1, .slice a2 n2 c2, .slice a3 n3 c3] w fun e w' => e = .returned (.bool true) ∧ Below w.heap.size w w' := by
  have q1 : ¬ (2147483647 : Int) < (n1 : Int) := by omega
  have q2 : ¬ (2147483647 : Int) < (n2 : Int) := by omega
  have q3 : ¬ (2147483647 : Int) < (n3 : Int) := by omega
  have q4 : ¬ (25 : Int) < (n1 : Int) := by omega
  have q5 : ¬ (25 : Int) < (n2 : Int) := by omega
  have q6 : ¬ (25 : Int) < (n3 : Int) := by omega
  have H := Lib.hid (And.intro h1 (And.intro h2 h3))
  have HB := Lib.hid (And.intro b1 (And.intro b2 b3))
  have HLN := Lib.hid (And.intro h1.2 (And.intro h2.2 h3.2))
  have HC := Lib.hid (mgSorted a1 n1 c1 U w h1 (by omega))
  clear h1 h2 h3 b1 b2 b3
  go_enter Try.func3, Try.ntmps3
  go_wp2_with (go_at_call 4; with_reducible refine HC.out.mono ?_)
  rintro e w1 h4
  obtain ⟨x1, k1, L1, rfl, r1, s1, p1, o1⟩ : ∃ (a : Option Addr) (cap : Nat) (L' : List It), e = .returned (.slice a L'.length cap) ∧ RS itc 2 w1 a L'.length cap L' ∧ Sorted L' ∧ L'.Perm U ∧ Same w w1 := h4
  have HG1 : Hid (Got w1 x1 L1.length k1 L1 ∧ L1.Perm U ∧ Same w w1) := Lib.hid ⟨⟨r1, s1⟩, p1, o1⟩
  have HC := Lib.hid (mgSorted a2 n2 c2 V w1 (H.out.2.1.still o1) (by have := HB.out; omega))
  clear r1 s1 p1 o1
  go_wp2_with (go_at_call 4; with_reducible refine HC.out.mono ?_)
  rintro e w2 h4
  obtain ⟨x2, k2, L2, rfl, r1, s1, p1, o1⟩ : ∃ (a : Option Addr) (cap : Nat) (L' : List It), e = .returned (.slice a L'.length cap) ∧ RS itc 2 w2 a L'.length cap L' ∧ Sorted L' ∧ L'.Perm V ∧ Same w1 w2 := h4
  have HG2 : Hid (Got w2 x2 L2.length k2 L2 ∧ L2.Perm V ∧ Same w1 w2) := Lib.hid ⟨⟨r1, s1⟩, p1, o1⟩
  have HC := Lib.hid (mgSorted a3 n3 c3 Z w2 ((H.out.2.2.still HG1.out.2.2).still o1) (by have := HB.out; omega))
  clear r1 s1 p1 o1
  go_wp2_with (go_at_call 4; with_reducible refine HC.out.mono ?_)
  rintro e w3 h4
  obtain ⟨x3, k3, L3, rfl, r1, s1, p1, o1⟩ : ∃ (a : Option Addr) (cap : Nat) (L' : List It), e = .returned (.slice a L'.length cap) ∧ RS itc 2 w3 a L'.length cap L' ∧ Sorted L' ∧ L'.Perm Z ∧ Same w2 w3 := h4
  have HG : Hid ((Got w3 x1 L1.length k1 L1 ∧ Got w3 x2 L2.length k2 L2 ∧ Got w3 x3 L3.length k3 L3) ∧ (L1.Perm U ∧ L2.Perm V ∧ L3.Perm Z) ∧ Same w w3) := Lib.hid
    ⟨⟨(HG1.out.1.still HG2.out.2.2).still o1, HG2.out.1.still o1, r1, s1⟩, ⟨HG1.out.2.1, HG2.out.2.1, p1⟩, (HG1.out.2.2.trans HG2.out.2.2).trans o1⟩
  have HN : Hid (L1.length = n1 ∧ L2.length = n2 ∧ L3.length = n3) := Lib.hid ⟨HG.out.2.1.1.length_eq.trans HLN.out.1, HG.out.2.1.2.1.length_eq.trans HLN.out.2.1, HG.out.2.1.2.2.length_eq.trans HLN.out.2.2⟩
  clear r1 s1 p1 o1 HG1 HG2 HC
  have hb : L1.length ≤ 25 ∧ L2.length ≤ 25 ∧ L3.length ≤ 25 := by have := HN.out; have := HB.out; omega
  have HHB := Lib.hid hb
  have HC := Lib.hid (mgMerge x1 x2 L1.length L2.length k1 k2 L1 L2 w3 HG.out.1.1.rs HG.out.1.2.1.rs HG.out.1.1.so HG.out.1.2.1.so (by omega) (by omega))
  clear hb
  -- one
  go_wp2_with (go_at_call 6; with_reducible refine HC.out.mono ?_)
  rintro e w4 h4
  obtain ⟨x4, k4, L4, rfl, cl, s1, p1⟩ : ∃ (a : Option Addr) (cap : Nat) (L' : List It), e = .returned (.slice a L'.length cap) ∧ CollS w3 w4 a L'.length cap L' ∧ Sorted L' ∧ L'.Perm (L1 ++ L2) := h4
  have H4 : Hid (Got w4 x4 L4.length k4 L4 ∧ L4.Perm (L1 ++ L2) ∧ Same w3 w4) := Lib.hid ⟨⟨cl.row.rs, s1⟩, p1, cl.same⟩
  have HC := Lib.hid (mgMerge x2 x1 L2.length L1.length k2 k1 L2 L1 w4 (HG.out.1.2.1.rs.still cl.same) (HG.out.1.1.rs.still cl.same) HG.out.1.2.1.so HG.out.1.1.so (by have := HHB.out; omega) (by have := HHB.out; omega))
  clear cl s1 p1
  -- two
  go_wp2_with (go_at_call 6; with_reducible refine HC.out.mono ?_)
  rintro e w5 h4
  obtain ⟨x5, k5, L5, rfl, cl, s1, p1⟩ : ∃ (a : Option Addr) (cap : Nat) (L' : List It), e = .returned (.slice a L'.length cap) ∧ CollS w4 w5 a L'.length cap L' ∧ Sorted L' ∧ L'.Perm (L2 ++ L1) := h4
  have H5 : Hid (Got w5 x5 L5.length k5 L5 ∧ L5.Perm (L2 ++ L1) ∧ Same w4 w5) := Lib.hid ⟨⟨cl.row.rs, s1⟩, p1, cl.same⟩
  have HL4 : Hid (L4.length = L1.length + L2.length ∧ L5.length = L1.length + L2.length) := Lib.hid ⟨by rw [H4.out.2.1.length_eq, List.length_append], by rw [p1.length_eq, List.length_append]; omega⟩
  have HC := Lib.hid (mgSorted x4 L4.length k4 L4 w5 (H4.out.1.rs.still cl.same) (by have := HL4.out; have := HHB.out; omega))
  clear cl s1 p1
  -- one, sorted once more
  go_wp2_with (go_at_call 4; with_reducible refine HC.out.mono ?_)
  rintro e w6 h4
  obtain ⟨x6, k6, L6, rfl, r1, s1, p1, o1⟩ : ∃ (a : Option Addr) (cap : Nat) (L' : List It), e = .returned (.slice a L'.length cap) ∧ RS itc 2 w6 a L'.length cap L' ∧ Sorted L' ∧ L'.Perm L4 ∧ Same w5 w6 := h4
  have H6 : Hid (L6.Perm L4 ∧ Sorted L6 ∧ L6.length = L4.length) := Lib.hid ⟨p1, s1, p1.length_eq⟩
  have HO6 : Hid (Same w3 w6) := Lib.hid ((H4.out.2.2.trans H5.out.2.2).trans o1)
  have HC := Lib.hid (mgMerge x6 x3 L6.length L3.length k6 k3 L6 L3 w6 r1 (HG.out.1.2.2.rs.still HO6.out) s1 HG.out.1.2.2.so (by have := HL4.out; have := HHB.out; have := H6.out.2.2; omega) (by have := HHB.out; omega))
  have H45 : Hid (Got w6 x4 L4.length k4 L4 ∧ Got w6 x5 L5.length k5 L5) := Lib.hid ⟨(H4.out.1.still H5.out.2.2).still o1, H5.out.1.still o1⟩
  clear r1 s1 p1 o1
  -- left
  go_wp2_with (go_at_call 6; with_reducible refine HC.out.mono ?_)
  rintro e w7 h4
  obtain ⟨x7, k7, L7, rfl, cl, s1, p1⟩ : ∃ (a : Option Addr) (cap : Nat) (L' : List It), e = .returned (.slice a L'.length cap) ∧ CollS w6 w7 a L'.length cap L' ∧ Sorted L' ∧ L'.Perm (L6 ++ L3) := h4
  have H7 : Hid (Got w7 x7 L7.length k7 L7 ∧ L7.Perm (L6 ++ L3) ∧ Same w6 w7) := Lib.hid ⟨⟨cl.row.rs, s1⟩, p1, cl.same⟩
  have HO7 : Hid (Same w3 w7) := Lib.hid (HO6.out.trans cl.same)
  have HC := Lib.hid (mgMerge x2 x3 L2.length L3.length k2 k3 L2 L3 w7 (HG.out.1.2.1.rs.still HO7.out) (HG.out.1.2.2.rs.still HO7.out) HG.out.1.2.1.so HG.out.1.2.2.so (by have := HHB.out; omega) (by have := HHB.out; omega))
  clear cl s1 p1
  go_wp2_with (go_at_call 6; with_reducible refine HC.out.mono ?_)
  rintro e w8 h4
  obtain ⟨x8, k8, L8, rfl, cl, s1, p1⟩ : ∃ (a : Option Addr) (cap : Nat) (L' : List It), e = .returned (.slice a L'.length cap) ∧ CollS w7 w8 a L'.length cap L' ∧ Sorted L' ∧ L'.Perm (L2 ++ L3) := h4
  have H8 : Hid (L8.Perm (L2 ++ L3) ∧ L8.length = L2.length + L3.length) := Lib.hid ⟨p1, by rw [p1.length_eq, List.length_append]⟩
  have HC := Lib.hid (mgSorted x8 L8.length k8 L8 w8 cl.row.rs (by have := H8.out.2; have := HHB.out; omega))
  have HO8 : Hid (Same w7 w8) := Lib.hid cl.same
  clear cl s1 p1
  go_wp2_with (go_at_call 4; with_reducible refine HC.out.mono ?_)
  rintro e w9 h4
  obtain ⟨x9, k9, L9, rfl, r1, s1, p1, o1⟩ : ∃ (a : Option Addr) (cap : Nat) (L' : List It), e = .returned (.slice a L'.length cap) ∧ RS itc 2 w9 a L'.length cap L' ∧ Sorted L' ∧ L'.Perm L8 ∧ Same w8 w9 := h4
  have H9 : Hid (L9.Perm L8 ∧ L9.length = L8.length) := Lib.hid ⟨p1, p1.length_eq⟩
  have HO9 : Hid (Same w7 w9) := Lib.hid (HO8.out.trans o1)
  have HC := Lib.hid (mgMerge x1 x9 L1.length L9.length k1 k9 L1 L9 w9 (HG.out.1.1.rs.still (HO7.out.trans HO9.out)) r1 HG.out.1.1.so s1 (by have := HHB.out; omega) (by have := H8.out.2; have := H9.out.2; have := HHB.out; omega))
  clear r1 s1 p1 o1
  -- right
  go_wp2_with (go_at_call 6; with_reducible refine HC.out.mono ?_)
  rintro e w10 h4
  obtain ⟨x10, k10, L10, rfl, cl, s1, p1⟩ : ∃ (a : Option Addr) (cap : Nat) (L' : List It), e = .returned (.slice a L'.length cap) ∧ CollS w9 w10 a L'.length cap L' ∧ Sorted L' ∧ L'.Perm (L1 ++ L9) := h4
  have HO10 : Hid (Same w7 w10 ∧ Same w w10) := Lib.hid ⟨HO9.out.trans cl.same, HG.out.2.2.trans (HO7.out.trans (HO9.out.trans cl.same))⟩
  have HP : Hid (L4.Perm L5 ∧ L7.Perm L10) := Lib.hid ⟨H4.out.2.1.trans (List.perm_append_comm.trans H5.out.2.1.symm), by
    have e1 : L7.Perm (L1 ++ L2 ++ L3) := H7.out.2.1.trans ((H6.out.1.trans H4.out.2.1).append_right _)
    have e2 : L10.Perm (L1 ++ (L2 ++ L3)) := p1.trans ((H9.out.1.trans H8.out.1).append_left _)
    rw [List.append_assoc] at e1
    exact e1.trans e2.symm⟩
  have HL7 : Hid (L7.length = L1.length + L2.length + L3.length ∧ L10.length = L7.length) := Lib.hid ⟨by rw [H7.out.2.1.length_eq, List.length_append, H6.out.2.2, HL4.out.1], HP.out.2.length_eq.symm⟩
  have HEA : Hid (∀ wx, Same w10 wx → Calls Try.prog 7 #[.slice x4 L4.length k4, .slice x5 L5.length k5, keyV] wx fun e w' => e = .returned (.bool true) ∧ Same wx w') := Lib.hid (fun wx hx => by
    have h5 : L5.length = L4.length := HP.out.1.length_eq.symm
    have := equalFunc x4 x5 L4.length k4 k5 L4 L5 wx (((H45.out.1.still H7.out.2.2).still HO10.out.1).rs.still hx) (by have := (((H45.out.2.still H7.out.2.2).still HO10.out.1).rs.still hx); rwa [h5] at this) (by have := HL4.out; have := HHB.out; omega) (fun i _ => keys_eq H45.out.1.so H45.out.2.so HP.out.1 i)
    rw [h5]; exact this)
  have HEB : Hid (∀ wx, Same w10 wx → Calls Try.prog 7 #[.slice x7 L7.length k7, .slice x10 L10.length k10, keyV] wx fun e w' => e = .returned (.bool true) ∧ Same wx w') := Lib.hid (fun wx hx => by
    have h5 : L10.length = L7.length := HL7.out.2
    have := equalFunc x7 x10 L7.length k7 k10 L7 L10 wx ((H7.out.1.still HO10.out.1).rs.still hx) (by have := cl.row.rs.still hx; rwa [h5] at this) (by have := HL7.out; have := HHB.out; omega) (fun i _ => keys_eq H7.out.1.so s1 HP.out.2 i)
    rw [h5]; exact this)
  obtain ⟨m, hm⟩ : ∃ m, n1 + n2 = m := ⟨_, rfl⟩
  obtain ⟨m3, hm3⟩ : ∃ m3, m + n3 = m3 := ⟨_, rfl⟩
  obtain ⟨y4, hy4⟩ : ∃ y, L4.length = y := ⟨_, rfl⟩
  obtain ⟨y7, hy7⟩ : ∃ y, L7.length = y := ⟨_, rfl⟩
  have g1 : (n1 : Int) + (n2 : Int) = (m : Int) := by omega
  have g2 : (m : Int) + (n3 : Int) = (m3 : Int) := by omega
  have g3 := i64_nat (k := m) (by have := HB.out; omega)
  have g4 := i64_nat (k := m3) (by have := HB.out; omega)
  have g5 : y4 = m := by have := HL4.out; have := HN.out; omega
  have g6 : y7 = m3 := by have := HL7.out; have := HN.out; omega
  have HHE := Lib.hid (And.intro HEA.out HEB.out)
  have HY := Lib.hid (And.intro hy4 hy7)
  rw [hy4, g5] at HEA
  rw [hy7, g6] at HEB
  rw [hy4, hy7, g5, g6]
  clear cl s1 p1 hm hm3 hy4 hy7 HHE HY g5 g6
  go_wp2_with (go_at_call 7; (first | (with_reducible refine (HEA.out _ (Only.refl _ _)).mono ?_) | (with_reducible refine (HEB.out _ ?_).mono ?_)))
  rintro e w11 ⟨rfl, hs11⟩
  have HO11 := Lib.hid hs11
  have HBN := Lib.hid (HEB.out w11 hs11)
  clear hs11 HEA HEB
  go_wp2_with (go_at_call 7; (with_reducible refine HBN.out.mono ?_))
  rintro e w12 ⟨rfl, hs12⟩
  have HF : Hid (Below w.heap.size w w12) := Lib.hid (Only.below ((HO10.out.2.trans HO11.out).trans hs12) (Nat.le_refl _) (fun _ _ => id))
  clear hs12
  go_wp2_with fail
  go_ret
  exact ⟨rfl, HF.out⟩
set_option maxRecDepth 100000 in
set_option maxHeartbeats 3200000 in
theorem early (a1 a2 a3 : Option Addr) (n1 n2 n3 c1 c2 c3 : Nat) (w : World) (b : ¬ (n1 ≤ 25 ∧ n2 ≤ 25 ∧ n3 ≤ 25)) :
    Calls Try.prog 3 #[.slice a1 n1 c1, .slice a2 n2 c2, .slice a3 n3 c3] w fun e w' => e = .returned (.bool true) ∧ Below w.heap.size w w' := by
  have HF : Hid (Below w.heap.size w w) := Lib.hid (Only.below (Only.refl (fun _ => False) _) (Nat.le_refl _) (fun _ _ => id))
  have HB := Lib.hid b
  clear b
  by_cases q1 : (2147483647 : Int) < (n1 : Int)
  · go_enter Try.func3, Try.ntmps3
    go_wp2_with fail
    go_ret
    exact ⟨rfl, HF.out⟩
  by_cases q2 : (2147483647 : Int) < (n2 : Int)
  · go_enter Try.func3, Try.ntmps3
    go_wp2_with fail
    go_ret
    exact ⟨rfl, HF.out⟩
  by_cases q3 : (2147483647 : Int) < (n3 : Int)
  · go_enter Try.func3, Try.ntmps3
    go_wp2_with fail
    go_ret
    exact ⟨rfl, HF.out⟩
  by_cases q4 : (25 : Int) < (n1 : Int)
  · go_enter Try.func3, Try.ntmps3
    go_wp2_with fail
    go_ret
    exact ⟨rfl, HF.out⟩
  by_cases q5 : (25 : Int) < (n2 : Int)
  · go_enter Try.func3, Try.ntmps3
    go_wp2_with fail
    go_ret
    exact ⟨rfl, HF.out⟩
  have q6 : (25 : Int) < (n3 : Int) := by have := HB.out; omega
  go_enter Try.func3, Try.ntmps3
  go_wp2_with fail
  go_ret
  exact ⟨rfl, HF.out⟩

theorem walk (W : World) (v0 v1 v2 : Value) (r0 : Reads Try.prog W 22 v0) (r1 : Reads Try.prog W 22 v1) (r2 : Reads Try.prog W 22 v2) :
    Calls Try.prog 3 #[v0, v1, v2] W fun e w' => e = .returned (.bool true) ∧ Below W.heap.size W w' := by
  obtain ⟨a1, n1, c1, U, rfl, h1⟩ := read_items r0
  obtain ⟨a2, n2, c2, V, rfl, h2⟩ := read_items r1
  obtain ⟨a3, n3, c3, Z, rfl, h3⟩ := read_items r2
  by_cases b : n1 ≤ 25 ∧ n2 ≤ 25 ∧ n3 ≤ 25
  · exact main a1 a2 a3 n1 n2 n3 c1 c2 c3 U V Z W h1 h2 h3 b.1 b.2.1 b.2.2
  · exact early a1 a2 a3 n1 n2 n3 c1 c2 c3 W b
end Go.Proofs.Ytceonnacpakjhaa.walkFnMGEither

/-
  FnBAEqualMixed: the walk. A dense array and a sparse one with as many bits, and some, are equal exactly if they have the same bits, in either order.
-/
import Derived.Test.YtacjkbljokjdkaaBaEqual
namespace Go.Proofs.Ytacjkbljokjdkaa.walkFnBAEqualMixed
open Go.RowKit Go.Proofs.Ytacjkbljokjdkaa.base Go.Proofs.Ytacjkbljokjdkaa.heap Go.Proofs.Ytacjkbljokjdkaa.rows Go.Proofs.Ytacjkbljokjdkaa.bit Go.Proofs.Ytacjkbljokjdkaa.bs Go.Proofs.Ytacjkbljokjdkaa.ba
set_option linter.unusedVariables false
theorem madeS_in {x : Bool} {q : Nat} : ∀ (L : List Nat), ∀ k ∈ madeS x q L, ∃ y ∈ L, k = cutB x q y := by
  intro L
  unfold madeS
  suffices h : ∀ s : List Nat, ∀ k ∈ L.foldl (fun s y => put s (cutB x q y)) s, k ∈ s ∨ ∃ y ∈ L, k = cutB x q y from fun k hk => (h [] k hk).resolve_left (by simp)
  induction L with
  | nil => exact fun s k hk => .inl hk
  | cons y L ih =>
    intro s k hk
    rcases ih _ k hk with h | ⟨z, h1, h2⟩
    · rcases put_mem.1 h with rfl | h
      · exact .inr ⟨y, by simp, rfl⟩
      · exact .inl h
    · exact .inr ⟨z, by simp [h1], h2⟩
theorem madeS_room (N : Nat) (hN : 0 < N) (l : List Nat) : ∀ k ∈ madeS false 0 ((l.map (· % N)).take 40), k < N := fun k hk => by
  obtain ⟨y, hy, rfl⟩ := madeS_in _ k hk
  have := List.mem_of_mem_take hy
  obtain ⟨z, _, rfl⟩ := List.mem_map.1 this
  have h1 := Nat.mod_lt z hN
  have h2 := Nat.mod_le (z % N) 1152921504606846976
  have h3 : cutB false 0 (z % N) = (z % N) % 1152921504606846976 := rfl
  rw [h3]
  omega
set_option maxRecDepth 100000 in
theorem askDS (s1 : Nat) (hs1 : s1 < 65536) (a b : Option Addr) (n ca m cb : Nat) (l1 l2 : List Nat) (w : World) (h1 : RL uv w a n ca l1) (h2 : RL uv w b m cb l2) (q1 : Nat) (hq1 : (1 + s1 % 512 + 63) / 64 = q1) (hb : ∀ k ∈ madeS false 0 (l2.take 40), k < 64 * q1) :
    Calls Try.prog 11 #[.int .i64 7, .bool true, .bool false, .bool true, .agg #[.int .u16 (s1 : Int), .int .u16 (s1 : Int)], .slice a n ca, .slice b m cb, .func (Fn.func 12) #[] #[], .func (Fn.func 13) #[] #[]] w (FV w (.bool true)) := by
  obtain ⟨m1, hm1⟩ : ∃ m1, 1 + s1 % 512 = m1 := ⟨_, rfl⟩
  rw [hm1] at hq1
  have M1 : MadeC true s1 0 a n ca l1 m1 q1 := by have := madeCD (s := s1) (on := 0) (a := a) (n := n) (c := ca) (l := l1) hs1 (by omega); rw [hm1, hq1] at this; exact this
  have hA2 : (l1.take 40).length ≤ 40 := by rw [List.length_take]; omega
  have hB2 : (l2.take 40).length ≤ 40 := by rw [List.length_take]; omega
  have hne : ∀ {A B : List Nat}, (decide (A.length = B.length) && decide (0 < A.length)) = true → A.length = B.length ∧ A ≠ [] ∧ B ≠ [] := fun {A B} h => by
    rw [Bool.and_eq_true, decide_eq_true_eq, decide_eq_true_eq] at h
    exact ⟨h.1, fun e => by rw [e] at h; exact absurd h.2 (by simp), fun e => by rw [e] at h; have h1 : A.length = 0 := h.1; have h2 := h.2; rw [h1] at h2; exact absurd h2 (by simp)⟩
  exact baAskG2 7 true false s1 s1 a b n ca m cb l1 l2 _ _ 12 13 m1 q1 0 0 (decide (madeS true q1 (l1.take 40) = madeS false 0 (l2.take 40))) _ w (fun _ _ => rfl) (fun _ _ => rfl)
    h1 h2 rfl rfl M1 (madeCS (by omega)) (fitsAsMany _ _ _ _ _ _) (isSame _ _)
    (fun hf => runs_ask2 (.inl ⟨rfl, by omega, hq1, by omega⟩) (.inr ⟨rfl, rfl, rfl⟩) hA2 hB2
      (does_eqDS (s := [⟨true, q1, madeS true q1 (l1.take 40)⟩, ⟨false, 0, madeS false 0 (l2.take 40)⟩]) (i := 0) (j := 1) rfl rfl rfl rfl hb (hne hf).2.1 (hne hf).2.2)
      (does_eqSD (s := [⟨true, q1, madeS true q1 (l1.take 40)⟩, ⟨false, 0, madeS false 0 (l2.take 40)⟩]) (i := 0) (j := 1) rfl rfl rfl rfl (hne hf).1 (hne hf).2.1))
set_option maxRecDepth 100000 in
set_option maxHeartbeats 3200000 in
theorem main (s1 : Nat) (hs1 : s1 < 65536) (a b : Option Addr) (n ca m cb : Nat) (l1 l2 : List Nat) (w : World) (h1 : RL uv w a n ca l1) (h2 : RL uv w b m cb l2) :
    Calls Try.prog 6 #[.int .u16 (s1 : Int), .slice a n ca, .slice b m cb] w (FV w (.bool true)) := by
  have hb1 := h1.bound
  have hb2 := h2.bound
  have H1 := Lib.hid h1
  have H2 := Lib.hid h2
  clear h1 h2
  by_cases hn : (2147483647 : Int) < (n : Int)
  · go_enter Try.func6, Try.ntmps6
    go_wp2_with fail
    go_ret
    exact ⟨rfl, Only.refl _ _⟩
  by_cases hm : (2147483647 : Int) < (m : Int)
  · go_enter Try.func6, Try.ntmps6
    go_wp2_with fail
    go_ret
    exact ⟨rfl, Only.refl _ _⟩
  obtain ⟨q1, HQ⟩ : ∃ q, Hid ((1 + s1 % 512 + 63) / 64 = q) := ⟨_, Lib.hid rfl⟩
  obtain ⟨t, ht⟩ : ∃ t, s1 % 512 = t := ⟨_, rfl⟩
  obtain ⟨N, HN⟩ : ∃ N, Hid (64 * q1 = N) := ⟨_, Lib.hid rfl⟩
  have hq2 := HQ.out
  have hN2 := HN.out
  have z1 : IntKind.u64.wrap (s1 : Int) = (s1 : Int) := by rw [IntKind.wrap_u64]; omega
  have z2 : (s1 : Int) % 512 = (t : Int) := by omega
  have z3 : IntKind.u64.wrap (1 + (t : Int)) = 1 + (t : Int) := by rw [IntKind.wrap_u64]; omega
  have z4 : IntKind.u64.wrap (1 + (t : Int) + 63) = 1 + (t : Int) + 63 := by rw [IntKind.wrap_u64]; omega
  have z5 : (1 + (t : Int) + 63) / 64 = (q1 : Int) := by omega
  have z6 : IntKind.u64.wrap (64 * (q1 : Int)) = (N : Int) := by rw [IntKind.wrap_u64]; omega
  have hN0 : 0 < N := by omega
  have hN1 : N ≤ 600 := by omega
  have z7 : ((N : Int) == 0) = false := by rw [beq_eq_false_iff_ne]; omega
  have z8 : ¬ (N : Int) = 0 := by omega
  have HT : Hid (∀ wx b' d' m', Same w wx → OU wx b' m' d' (l2.map (· % N)) → Calls Try.prog 11 #[.int .i64 7, .bool true, .bool false, .bool true, .agg #[.int .u16 (s1 : Int), .int .u16 (s1 : Int)], .slice a n ca, .slice b' m' d', .func (Fn.func 12) #[] #[], .func (Fn.func 13) #[] #[]] wx (FV wx (.bool true))) := Lib.hid (fun wx b' d' m' g1 g2 =>
    askDS s1 hs1 a b' n ca _ d' l1 _ wx (H1.out.still g1) g2.rl q1 HQ.out (by rw [HN.out]; exact madeS_room N hN0 l2))
  clear hq2 hN2 ht HQ HN H1
  go_enter Try.func6, Try.ntmps6
  go_wp2_with fail
  go_loopw [8, 9] (fun s i wr => ∃ (k : Nat) (a' : Option Addr) (c' : Nat), k ≤ m ∧ i = .int .i64 (k : Int) ∧ s = .slice a' k c' ∧ Hid (OU wr a' k c' ((l2.take k).map (· % N)) ∧ Same w wr ∧ ∀ j, At a' j → w.heap.size ≤ j)) (fun _ i _ => m - (intOf i).toNat)
  case atStart => exact ⟨0, none, 0, Nat.zero_le _, rfl, rfl, Lib.hid ⟨by simpa using OU.nil w, Only.refl _ _, fun j hj => hj.elim⟩⟩
  case round =>
    obtain ⟨k, a', c', hk, rfl, rfl, HO⟩ := hrel
    by_cases hlt : k < m
    · have hlt' : (k : Int) < (m : Int) := by omega
      have hk0 : (0 : Int) ≤ (k : Int) := by omega
      obtain ⟨b1, o1, ha1, hb1', hc1⟩ := (H2.out.still HO.out.2.1).at (by omega)
      obtain ⟨x, hx⟩ := H2.out.get hlt
      have c1 := hc1 k x hx
      have HX := Lib.hid hx
      obtain ⟨y, HY⟩ : ∃ y, Hid (x % N = y) := ⟨_, Lib.hid rfl⟩
      have hy : (x : Int) % (N : Int) = (y : Int) := by rw [← HY.out]; simp
      have bb := HO.out.1.bound
      subst ha1
      clear hx hc1
      go_wp2_with (at_builtin; refine wpList_append (k + 1) (U ((l2.take k).map (· % N)) ++ U [y]) rfl _ _ _ _ rfl slWord rfl (HO.out.1.1.keep (S := fun _ => False) (by repeat (first | exact Only.refl _ _ | apply Only.alloc | apply Only.drew)) (fun _ _ => id)) rfl (Src.row (size := 1) (cs := #[.int .u64 (y : Int)]) (t := 24) (fr := (0, 0)) Try.underlying23 (by exact heap_alloc_new _ _) 1 1 rfl (by intro u hu; simp at hu; subst hu; rfl)) rfl rfl (by unfold maxLen; omega) (by omega) ?_)
      intro a2 cc2 w2 hG
      have HO2 : Hid (OU w2 a2 (k + 1) cc2 ((l2.take (k + 1)).map (· % N)) ∧ Same w w2 ∧ ∀ j, At a2 j → w.heap.size ≤ j) := Lib.hid (by
        have e1 : (l2.take (k + 1)).map (· % N) = (l2.take k).map (· % N) ++ [y] := by rw [take_snoc l2 k x HX.out, List.map_append, ← HY.out]; rfl
        have e2 : U ((l2.take k).map (· % N)) ++ U [y] = U ((l2.take (k + 1)).map (· % N)) := by rw [e1]; simp [U]
        have e3 : ((l2.take (k + 1)).map (· % N)).length = k + 1 := by rw [e1, List.length_append, HO.out.1.2]; rfl
        refine ⟨⟨by rw [← e2, List.map_take]; exact hG.own, e3⟩, new_only (Same.trans HO.out.2.1 ((Only.refl _ _).alloc _)) hG.only (fun j hj => HO.out.2.2 j hj), fun j hj => ?_⟩
        rcases hG.fresh j hj with h1 | h1
        · exact HO.out.2.2 j h1
        · have := HO.out.2.1.size; simp at h1; omega)
      clear hG
      go_wp2_with fail
      go_roundw
      case rel => exact ⟨k + 1, a2, cc2, by omega, by go_num, rfl, HO2⟩
      case measure => simp [intOf]; omega
    · have hlt' : ¬ (k : Int) < (m : Int) := by omega
      obtain rfl : k = m := by omega
      have HF : Hid (l2.take k = l2) := Lib.hid (List.take_of_length_le (by rw [H2.out.2]; omega))
      rw [HF.out] at HO
      go_wp2_with (go_at_call 11; refine (HT.out _ _ _ _ HO.out.2.1 HO.out.1).mono ?_)
      rintro e w9 ⟨rfl, hS9⟩
      have HS9 := Lib.hid (Same.trans HO.out.2.1 hS9)
      clear hS9
      go_wp2_with fail
      go_ret
      exact ⟨rfl, HS9.out⟩
theorem walk (W : World) (v0 v1 v2 : Value) (r0 : Reads Try.prog W 22 v0) (r1 : Reads Try.prog W 23 v1) (r2 : Reads Try.prog W 23 v2) :
    Calls Try.prog 6 #[v0, v1, v2] W fun e w' => e = .returned (.bool true) ∧ Below W.heap.size W w' := by
  obtain ⟨s1, rfl, w1⟩ := r0.int Try.underlying22
  obtain ⟨a, n, ca, l1, rfl, h1, _⟩ := reads_nums r1 Try.underlying23 Try.underlying24 (by kernel_rfl) (fun n h => (wf_u64 h).1)
  obtain ⟨b, m, cb, l2, rfl, h2, _⟩ := reads_nums r2 Try.underlying23 Try.underlying24 (by kernel_rfl) (fun n h => (wf_u64 h).1)
  have b1 := wf_u16 w1
  obtain ⟨t1, rfl⟩ : ∃ t : Nat, s1 = (t : Int) := ⟨s1.toNat, by omega⟩
  exact (main t1 (by omega) a b n ca m cb l1 l2 W h1 h2).mono fun e w' ⟨he, hS⟩ => ⟨he, Only.below hS (Nat.le_refl _) (fun _ _ => id)⟩
end Go.Proofs.Ytacjkbljokjdkaa.walkFnBAEqualMixed

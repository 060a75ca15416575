/-
  spec.BABlocks, step by step: a new word, or the last word once more. Its walk.
-/
import Derived.Test.YtacjkbljokjdkaaBaBlkP
import Derived.Test.YtacjkbljokjdkaaBaPut
namespace Go.Proofs.Ytacjkbljokjdkaa.ba
open Go.RowKit Go.Proofs.Ytacjkbljokjdkaa.base Go.Proofs.Ytacjkbljokjdkaa.heap Go.Proofs.Ytacjkbljokjdkaa.rows Go.Proofs.Ytacjkbljokjdkaa.bit Go.Proofs.Ytacjkbljokjdkaa.bs
set_option linter.unusedVariables false
/-- the row so far ends in a pair of this place, or it does not -/
theorem bk_cases (P : List (Nat × Nat)) (j : Nat) : P = [] ∨ (∃ Q a b, P = Q ++ [(a, b)] ∧ a ≠ j) ∨ ∃ Q b, P = Q ++ [(j, b)] := by
  rcases List.eq_nil_or_concat P with h | ⟨Q, x, h⟩
  · exact .inl h
  · obtain ⟨a, b⟩ := x
    rw [List.concat_eq_append] at h
    by_cases e : a = j
    · subst e; exact .inr (.inr ⟨Q, b, h⟩)
    · exact .inr (.inl ⟨Q, a, b, h, e⟩)
theorem bk_new {l : List Nat} (hl : Asc l) (h60 : ∀ x ∈ l, x < 2 ^ 60) {k x : Nat} (hx : l[k]? = some x) (hn : bkP (l.take k) = [] ∨ ∃ Q a b, bkP (l.take k) = Q ++ [(a, b)] ∧ a ≠ x / 64) : bkP (l.take (k + 1)) = bkP (l.take k) ++ [(x / 64, 2 ^ (x % 64))] := by
  have hk := (List.getElem?_eq_some_iff.1 hx).1
  obtain ⟨h1, h2⟩ := bkP_good hl h60 k (by omega)
  rw [bkP_snoc l k x hx]
  refine pput_new h1 h2 (fun y hy => ?_) (h60 x (List.mem_of_getElem? hx)) (fun Q a b e => ?_)
  · obtain ⟨i, hi⟩ := List.mem_iff_getElem?.1 hy
    have hik : i < k := by have := (List.getElem?_eq_some_iff.1 hi).1; rw [List.length_take] at this; omega
    rw [List.getElem?_take, if_pos hik] at hi
    exact hl.get hik hi hx
  · rcases hn with h | ⟨Q', a', b', h, hne⟩
    · rw [h] at e; exact absurd e (by simp)
    · rw [h] at e
      have := List.append_inj_right' e rfl
      have : a' = a := by simpa using (congrArg (fun t => t.head?.map (·.1)) this)
      rw [← this]; exact hne
theorem bk_more {l : List Nat} (hl : Asc l) (h60 : ∀ x ∈ l, x < 2 ^ 60) {k x : Nat} (hx : l[k]? = some x) {Q : List (Nat × Nat)} {b : Nat} (hq : bkP (l.take k) = Q ++ [(x / 64, b)]) : bkP (l.take (k + 1)) = Q ++ [(x / 64, b ||| 2 ^ (x % 64))] := by
  have hk := (List.getElem?_eq_some_iff.1 hx).1
  obtain ⟨h1, h2⟩ := bkP_good hl h60 k (by omega)
  rw [bkP_snoc l k x hx]
  rw [hq] at h1 h2 ⊢
  refine pput_more h1 h2 (fun y hy => ?_) (h60 x (List.mem_of_getElem? hx)) rfl
  obtain ⟨i, hi⟩ := List.mem_iff_getElem?.1 hy
  have hik : i < k := by have := (List.getElem?_eq_some_iff.1 hi).1; rw [List.length_take] at this; omega
  rw [List.getElem?_take, if_pos hik] at hi
  exact hl.get hik hi hx
end Go.Proofs.Ytacjkbljokjdkaa.ba
namespace Go.Proofs.Ytacjkbljokjdkaa.ba
open Go.RowKit Go.Proofs.Ytacjkbljokjdkaa.base Go.Proofs.Ytacjkbljokjdkaa.heap Go.Proofs.Ytacjkbljokjdkaa.rows Go.Proofs.Ytacjkbljokjdkaa.bit Go.Proofs.Ytacjkbljokjdkaa.bs
set_option linter.unusedVariables false
theorem U_get' {l : List Nat} {k x : Nat} (h : l[k]? = some x) : (U l)[k]? = some (.int .u64 (x : Int)) := by simp [U, h]
/-- a row of pairs of the call's own -/
def OwnP (w wr : World) (a : Option Addr) (m c : Nat) (P : List (Nat × Nat)) : Prop := Own 24 1 wr a m c (U (flatP P)) ∧ m = 2 * P.length ∧ Same w wr ∧ ∀ j, At a j → w.heap.size ≤ j
theorem OwnP.pair {w wr : World} {a : Option Addr} {m c x y : Nat} {Q : List (Nat × Nat)} (h : OwnP w wr a m c (Q ++ [(x, y)])) : ∃ t b, m = t + 2 ∧ a = some ⟨b, 0, none⟩ ∧ wr.cell? ⟨b, t, none⟩ = some (.int .u64 (x : Int)) ∧ wr.cell? ⟨b, t + 1, none⟩ = some (.int .u64 (y : Int)) ∧ wr.frozen? ⟨b, t + 1, none⟩ = false ∧ t = 2 * Q.length := by
  have hm : m = 2 * Q.length + 2 := by have := h.2.1; rw [List.length_append] at this; simpa [Nat.mul_add] using this
  obtain ⟨b, hb, _, hc⟩ := h.1.at (by omega)
  obtain ⟨h1, h2⟩ := flatP_at Q x y
  refine ⟨2 * Q.length, b, hm, hb, ?_, ?_, h.1.frozen hb _, rfl⟩
  · have := hc _ _ (U_get' h1); rwa [Nat.zero_add] at this
  · have := hc _ _ (U_get' h2); rwa [Nat.zero_add] at this
theorem OwnP.still {w wr w' : World} {a : Option Addr} {m c : Nat} {P : List (Nat × Nat)} (h : OwnP w wr a m c P) (hw : Same wr w') : OwnP w w' a m c P :=
  ⟨h.1.keep hw (fun _ _ => id), h.2.1, Same.trans h.2.2.1 hw, h.2.2.2⟩
theorem OwnP.store {w wr : World} {b m c x y z t j : Nat} {Q : List (Nat × Nat)} (h : OwnP w wr (some ⟨b, 0, none⟩) m c (Q ++ [(x, y)])) (ht : t = 2 * Q.length) (hj : j = t + 1) : OwnP w (wr.setCell ⟨b, j, none⟩ (.int .u64 (z : Int))) (some ⟨b, 0, none⟩) m c (Q ++ [(x, z)]) := by
  subst ht
  subst hj
  have hm : m = 2 * Q.length + 2 := by have := h.2.1; rw [List.length_append] at this; simpa [Nat.mul_add] using this
  refine ⟨?_, ?_, ?_, h.2.2.2⟩
  · have h1 := h.1.set rfl (2 * Q.length + 1) (.int .u64 (z : Int)) rfl (by omega)
    rw [U_set, flatP_set] at h1
    exact h1
  · have := h.2.1; rw [List.length_append] at this ⊢; exact this
  · exact h.2.2.1.setCell _ _ (fun hk => by have := h.2.2.2 b rfl; simp at hk; omega)
set_option maxRecDepth 100000 in
set_option maxHeartbeats 3200000 in
theorem baBlocks {w : World} {a : Option Addr} {n cap : Nat} {l : List Nat} (h : RL uv w a n cap l) (hl : Asc l) (h60 : ∀ x ∈ l, x < 2 ^ 60) (hn : n ≤ 1000000) :
    Calls Try.prog 20 #[.slice a n cap] w (PutP (flatP (bkP l)) none w) := by
  have H := Lib.hid h
  have HL := Lib.hid hl
  have H60 := Lib.hid h60
  have hbd := h.bound
  clear h hl h60
  go_enter Try.func20, Try.ntmps20
  go_wp2_with fail
  go_loopw [3, 4] (fun s i wr => ∃ (k m : Nat) (a' : Option Addr) (c' : Nat), k ≤ n ∧ m ≤ 2 * k ∧ i = .int .i64 (k : Int) ∧ s = .slice a' m c' ∧ Hid (OwnP w wr a' m c' (bkP (l.take k)))) (fun _ i _ => n - (intOf i).toNat)
  case atStart => exact ⟨0, 0, none, 0, Nat.zero_le _, Nat.le_refl _, rfl, rfl, Lib.hid ⟨Own.nil _ _ _, rfl, Only.refl _ _, fun j hj => hj.elim⟩⟩
  case round =>
    obtain ⟨k, m, a', c', hk, hm, rfl, rfl, HO⟩ := hrel
    by_cases hlt : k < n
    · have hlt' : (k : Int) < (n : Int) := by omega
      have hk0 : (0 : Int) ≤ (k : Int) := by omega
      obtain ⟨b1, o1, ha1, hb1, hc1⟩ := (H.out.still HO.out.2.2.1).at (by omega)
      obtain ⟨x, hx⟩ := H.out.get hlt
      have c1 := hc1 k x hx
      have HC1 : Hid (∀ wx, Same w wx → wx.cell? ⟨b1, o1 + k, none⟩ = some (.int .u64 (x : Int))) := Lib.hid (fun wx hS => by
        obtain ⟨b9, o9, ha9, _, hc9⟩ := (H.out.still hS).at (by omega)
        rw [ha1] at ha9
        cases ha9
        have := hc9 k x hx
        simpa using this)
      have HX := Lib.hid hx
      have hr64 : x % 64 < 64 := Nat.mod_lt _ (by omega)
      obtain ⟨y, HY⟩ : ∃ y, Hid (x / 64 = y) := ⟨_, Lib.hid rfl⟩
      obtain ⟨r, HR⟩ : ∃ r, Hid (x % 64 = r) := ⟨_, Lib.hid rfl⟩
      have z1 : (x : Int) / 64 = (y : Int) := by have := HY.out; omega
      have z0 : IntKind.u64.wrap (y : Int) = (y : Int) := by have := HY.out; have := H60.out x (List.mem_of_getElem? hx); rw [IntKind.wrap_u64]; omega
      have z2 : (x : Int) % 64 = (r : Int) := by have := HR.out; omega
      rw [HR.out] at hr64
      have hr' : (r : Int) < 64 := by omega
      have z3 := wrap_pow hr64
      obtain ⟨z, HZ⟩ : ∃ z, Hid (2 ^ r = z) := ⟨_, Lib.hid rfl⟩
      have hzl : Hid (Lt64 z) := Lib.hid (by rw [← HZ.out]; exact lt64_pow hr64)
      rw [HZ.out] at z3
      have bb := HO.out.1.bound
      subst ha1
      by_cases hA : bkP (l.take k) = [] ∨ ∃ Q a b, bkP (l.take k) = Q ++ [(a, b)] ∧ a ≠ x / 64
      · have HNW := Lib.hid (bk_new HL.out H60.out hx hA)
        rw [HY.out, HR.out, HZ.out] at HNW
        rcases hA with hA | ⟨Q, xa, xb, hA, hne⟩
        · have hm0 : m = 0 := by have := HO.out.2.1; rw [hA] at this; exact this
          subst hm0
          clear hx hc1 hA
          go_wp2_with fail
          go_quiet (fail)
          go_wp2_with (at_builtin; refine wpList_append (0 + 2) (U (flatP (bkP (l.take k))) ++ U [y, 0]) rfl _ _ _ _ rfl slWord rfl (HO.out.1.keep (S := fun _ => False) (by repeat (first | exact Only.refl _ _ | apply Only.alloc | apply Only.drew | apply Only.drewN)) (fun _ _ => id)) rfl (Src.row (size := 1) (cs := #[.int .u64 (y : Int), .int .u64 0]) (t := 24) (fr := (0, 0)) Try.underlying23 (by exact heap_alloc_new _ _) 2 2 rfl (by intro u hu; simp at hu; rcases hu with rfl | rfl <;> rfl)) rfl rfl (by unfold maxLen; omega) (by omega) ?_)
          intro a2 c2 w6 hG
          obtain ⟨b0, hb0⟩ : ∃ b0 : Nat, b0 = 0 := ⟨_, rfl⟩
          have HP6 : Hid (OwnP w w6 a2 (0 + 2) c2 (bkP (l.take k) ++ [(y, b0)])) := Lib.hid (by
            rw [hb0]
            refine ⟨?_, ?_, new_only (Same.trans HO.out.2.2.1 (by repeat (first | exact Only.refl _ _ | apply Only.alloc | apply Only.drew | apply Only.drewN))) hG.only (fun j hj => HO.out.2.2.2 j hj), fun j hj => ?_⟩
            · rw [flatP_snoc]
              have := hG.own
              rw [← U_app] at *
              exact this
            · have := HO.out.2.1
              rw [List.length_append, Nat.mul_add, ← this]; rfl
            · rcases hG.fresh j hj with h1 | h1
              · exact HO.out.2.2.2 j h1
              · have := HO.out.2.2.1.size; simp at h1; omega)
          clear hG
          obtain ⟨t0, b2, ht0, ha2, d0, d1, d2, ht⟩ := HP6.out.pair
          obtain rfl : t0 = 0 := by omega
          subst ha2
          have HT := Lib.hid ht
          have HB0 := Lib.hid hb0
          have c6 := HC1.out w6 HP6.out.2.2.1
          have hor := or_nat (show Lt64 b0 by rw [hb0]; unfold Lt64; omega) hzl.out
          obtain ⟨v, HV⟩ : ∃ v, Hid (b0 ||| z = v) := ⟨_, Lib.hid rfl⟩
          rw [HV.out] at hor
          clear ht hb0 ht0
          go_wp2_with fail
          go_region
          all_goals
            go_wp2_with fail
            go_roundw
            case rel =>
              refine ⟨k + 1, 0 + 2, some ⟨b2, 0, none⟩, c2, by omega, by omega, by go_num, rfl, Lib.hid ?_⟩
              have hv : v = z := by rw [← HV.out, HB0.out]; simp
              rw [HNW.out, ← hv]
              first | exact HP6.out.store HT.out (by omega) | exact (HP6.out.store HT.out (by omega)).still ((Only.refl _ _).drew) | exact (HP6.out.store HT.out (by omega)).still ((Only.refl _ _).drewN _) | exact (HP6.out.still ((Only.refl _ _).drewN _)).store HT.out (by omega) | exact (HP6.out.still ((Only.refl _ _).drew)).store HT.out (by omega) | exact ((HP6.out.still ((Only.refl _ _).drewN _)).store HT.out (by omega)).still ((Only.refl _ _).drew)
            case measure => simp [intOf]; omega
        · have hO2 := HO.out
          rw [hA] at hO2
          obtain ⟨t, b3, hmt, ha3, e0, _, _, htq⟩ := hO2.pair
          subst ha3
          rw [HY.out] at hne
          have hne1 : ((xa : Int) == (y : Int)) = false := by rw [beq_eq_false_iff_ne]; omega
          have hne2 : ¬ (xa : Int) = (y : Int) := by omega
          have hne3 : ¬ xa = y := by omega
          have hne4 : (xa == y) = false := by rw [beq_eq_false_iff_ne]; omega
          have hne5 : ((xa : Int) != (y : Int)) = true := by rw [bne_iff_ne]; omega
          have hm1 : ((m : Int) == 0) = false := by rw [beq_eq_false_iff_ne]; omega
          have hm2 : IntKind.i64.wrap ((m : Int) - 2) = (t : Int) := by rw [IntWalk.i64_in _ (by omega)]; omega
          have hm3 : (0 : Int) ≤ (t : Int) := by omega
          have hm4 : (t : Int) < (m : Int) := by omega
          clear hx hc1 hA hO2 hne htq hmt
          go_wp2_with fail
          go_quiet (fail)
          go_wp2_with (at_builtin; refine wpList_append (m + 2) (U (flatP (bkP (l.take k))) ++ U [y, 0]) rfl _ _ _ _ rfl slWord rfl (HO.out.1.keep (S := fun _ => False) (by repeat (first | exact Only.refl _ _ | apply Only.alloc | apply Only.drew | apply Only.drewN)) (fun _ _ => id)) rfl (Src.row (size := 1) (cs := #[.int .u64 (y : Int), .int .u64 0]) (t := 24) (fr := (0, 0)) Try.underlying23 (by exact heap_alloc_new _ _) 2 2 rfl (by intro u hu; simp at hu; rcases hu with rfl | rfl <;> rfl)) rfl rfl (by unfold maxLen; omega) (by omega) ?_)
          intro a2 c2 w6 hG
          obtain ⟨b0, hb0⟩ : ∃ b0 : Nat, b0 = 0 := ⟨_, rfl⟩
          have HP6 : Hid (OwnP w w6 a2 (m + 2) c2 (bkP (l.take k) ++ [(y, b0)])) := Lib.hid (by
            rw [hb0]
            refine ⟨?_, ?_, new_only (Same.trans HO.out.2.2.1 (by repeat (first | exact Only.refl _ _ | apply Only.alloc | apply Only.drew | apply Only.drewN))) hG.only (fun j hj => HO.out.2.2.2 j hj), fun j hj => ?_⟩
            · rw [flatP_snoc]
              have := hG.own
              rw [← U_app] at *
              exact this
            · have := HO.out.2.1
              rw [List.length_append, Nat.mul_add, ← this]; rfl
            · rcases hG.fresh j hj with h1 | h1
              · exact HO.out.2.2.2 j h1
              · have := HO.out.2.2.1.size; simp at h1; omega)
          clear hG
          obtain ⟨t0, b2, ht0, ha2, d0, d1, d2, ht⟩ := HP6.out.pair
          obtain rfl : m = t0 := by omega
          subst ha2
          have HT := Lib.hid ht
          have HB0 := Lib.hid hb0
          have c6 := HC1.out w6 HP6.out.2.2.1
          have hor := or_nat (show Lt64 b0 by rw [hb0]; unfold Lt64; omega) hzl.out
          obtain ⟨v, HV⟩ : ∃ v, Hid (b0 ||| z = v) := ⟨_, Lib.hid rfl⟩
          rw [HV.out] at hor
          clear ht hb0 ht0
          go_wp2_with fail
          go_region
          all_goals
            go_wp2_with fail
            go_roundw
            case rel =>
              refine ⟨k + 1, m + 2, some ⟨b2, 0, none⟩, c2, by omega, by omega, by go_num, rfl, Lib.hid ?_⟩
              have hv : v = z := by rw [← HV.out, HB0.out]; simp
              rw [HNW.out, ← hv]
              first | exact HP6.out.store HT.out (by omega) | exact (HP6.out.store HT.out (by omega)).still ((Only.refl _ _).drew) | exact (HP6.out.store HT.out (by omega)).still ((Only.refl _ _).drewN _) | exact (HP6.out.still ((Only.refl _ _).drewN _)).store HT.out (by omega) | exact (HP6.out.still ((Only.refl _ _).drew)).store HT.out (by omega) | exact ((HP6.out.still ((Only.refl _ _).drewN _)).store HT.out (by omega)).still ((Only.refl _ _).drew)
            case measure => simp [intOf]; omega
      · obtain ⟨Q, b0, hQ⟩ : ∃ Q b0, bkP (l.take k) = Q ++ [(x / 64, b0)] := by
          rcases bk_cases (bkP (l.take k)) (x / 64) with h | h | h
          · exact absurd (.inl h) hA
          · exact absurd (.inr h) hA
          · exact h
        have HNW := Lib.hid (bk_more HL.out H60.out hx hQ)
        have hbG : Lt64 b0 := by
          have := (bkP_good HL.out H60.out k (by have := H.out.2; omega)).1.2 (x / 64, b0) (by rw [hQ]; simp)
          exact this.1
        have HP6 : Hid (OwnP w wr a' m c' (Q ++ [(y, b0)])) := Lib.hid (by have := HO.out; rw [hQ, HY.out] at this; exact this)
        rw [HY.out, HR.out, HZ.out] at HNW
        obtain ⟨t, b2, hmt, ha2, d0, d1, d2, ht⟩ := HP6.out.pair
        subst ha2
        have HT := Lib.hid ht
        have hm1 : ((m : Int) == 0) = false := by rw [beq_eq_false_iff_ne]; omega
        have hm2 : IntKind.i64.wrap ((m : Int) - 2) = (t : Int) := by rw [IntWalk.i64_in _ (by omega)]; omega
        have hm3 : (0 : Int) ≤ (t : Int) := by omega
        have hm4 : (t : Int) < (m : Int) := by omega
        have hm5 : IntKind.i64.wrap ((m : Int) - 1) = ((t + 1 : Nat) : Int) := by rw [IntWalk.i64_in _ (by omega)]; omega
        have hm6 : ((t + 1 : Nat) : Int) < (m : Int) := by omega
        have hor := or_nat hbG hzl.out
        obtain ⟨v, HV⟩ : ∃ v, Hid (b0 ||| z = v) := ⟨_, Lib.hid rfl⟩
        rw [HV.out] at hor HNW
        clear ht hx hc1 hA hQ hbG hmt
        go_wp2_with fail
        go_quiet (fail)
        go_wp2_with fail
        go_region
        all_goals
          go_wp2_with fail
          go_roundw
          case rel =>
            refine ⟨k + 1, m, some ⟨b2, 0, none⟩, c', by omega, by omega, by go_num, rfl, Lib.hid ?_⟩
            rw [HNW.out]
            first | exact HP6.out.store HT.out (by omega) | exact (HP6.out.store HT.out (by omega)).still ((Only.refl _ _).drew) | exact (HP6.out.store HT.out (by omega)).still ((Only.refl _ _).drewN _) | exact (HP6.out.still ((Only.refl _ _).drewN _)).store HT.out (by omega) | exact (HP6.out.still ((Only.refl _ _).drew)).store HT.out (by omega) | exact ((HP6.out.still ((Only.refl _ _).drewN _)).store HT.out (by omega)).still ((Only.refl _ _).drew)
          case measure => simp [intOf]; omega
    · have hlt' : ¬ (k : Int) < (n : Int) := by omega
      obtain rfl : k = n := by omega
      have HF : Hid (l.take k = l) := Lib.hid (List.take_of_length_le (by rw [H.out.2]; omega))
      rw [HF.out] at HO
      go_wp2_with fail
      go_ret
      have hlen : (flatP (bkP l)).length = m := by rw [flatP_len]; exact HO.out.2.1.symm
      exact ⟨a', c', by rw [hlen]; rfl, ⟨by rw [hlen]; exact HO.out.1, rfl⟩, HO.out.2.2.1, fun j hj => .inr (HO.out.2.2.2 j hj)⟩
end Go.Proofs.Ytacjkbljokjdkaa.ba

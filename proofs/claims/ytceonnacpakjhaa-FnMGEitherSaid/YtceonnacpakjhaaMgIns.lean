/-
  slices: comparing two structs by their keys; insertion sort of a part of a list.
-/
import Derived.Test.YtceonnacpakjhaaMgSwap
import Derived.Deep.CutBlock
namespace Go.Proofs.Ytceonnacpakjhaa.mg
open Go.RowKit Go.Proofs.Ytceonnacpakjhaa.base Go.Proofs.Ytceonnacpakjhaa.heap Go.Proofs.Ytceonnacpakjhaa.rows Go.Proofs.Ytceonnacpakjhaa.pq
set_option linter.unusedVariables false

/-- all but what stands at j is sorted; what stands behind j is not less -/
structure InsAt (a j e : Nat) (L : List It) : Prop where
  le : a ≤ j ∧ j < e
  rest : ∀ p q, a ≤ p → p ≤ q → q < e → p ≠ j → q ≠ j → kAt L p ≤ kAt L q
  up : ∀ q, j < q → q < e → kAt L j ≤ kAt L q
theorem InsAt.start {a i : Nat} {L : List It} (h : Srt a i L) (hi : a ≤ i) : InsAt a i (i + 1) L :=
  ⟨⟨hi, by omega⟩, fun p q h1 h2 h3 h4 h5 => h p q h1 h2 (by omega), fun q h1 h2 => by omega⟩
theorem InsAt.step {a j e : Nat} {L : List It} (h : InsAt a j e L) (he : e ≤ L.length) (hj : a < j) (hlt : kAt L j < kAt L (j - 1)) : InsAt a (j - 1) e (swapL L j (j - 1)) := by
  have hle := h.le
  have g := fun m => kAt_swap (L := L) (i := j) (j := j - 1) (by omega) (by omega) m
  refine ⟨by omega, fun p q h1 h2 h3 h4 h5 => ?_, fun q h1 h2 => ?_⟩
  · rw [g, g, if_neg h4, if_neg h5]
    by_cases hp : p = j
    · subst hp
      rw [if_pos rfl]
      by_cases hq : q = p
      · rw [if_pos hq]; exact Int.le_refl _
      · rw [if_neg hq]; exact h.rest (p - 1) q (by omega) (by omega) h3 (by omega) hq
    · rw [if_neg hp]
      by_cases hq : q = j
      · rw [if_pos hq]; exact h.rest p (j - 1) h1 (by omega) (by omega) hp (by omega)
      · rw [if_neg hq]; exact h.rest p q h1 h2 h3 hp hq
  · rw [g, g, if_pos rfl]
    by_cases hq : q = j
    · rw [if_neg (by omega), if_pos hq]; omega
    · rw [if_neg (by omega), if_neg hq]; exact h.up q (by omega) h2
theorem InsAt.done {a j e : Nat} {L : List It} (h : InsAt a j e L) (hd : j = a ∨ kAt L (j - 1) ≤ kAt L j) : Srt a e L := fun p q h1 h2 h3 => by
  have hle := h.le
  by_cases hp : p = j
  · subst hp
    by_cases hq : q = p
    · subst hq; exact Int.le_refl _
    · exact h.up q (by omega) h3
  · by_cases hq : q = j
    · subst hq
      have h4 := hd.resolve_left (by omega)
      have h5 := h.rest p (q - 1) h1 (by omega) (by omega) hp (by omega)
      omega
    · exact h.rest p q h1 h2 h3 hp hq

theorem isNaN (a : Int) (w : World) : Calls Try.prog 15 #[.int .i64 a] w fun e w' => e = .returned (.bool false) ∧ w = w' := by
  go_enter Try.func15, Try.ntmps15
  go_wp2_with fail
  go_ret
  exact ⟨rfl, rfl⟩
theorem compare (a b : Int) (w : World) : Calls Try.prog 11 #[.int .i64 a, .int .i64 b] w fun e w' => e = .returned (.int .i64 (ordZ a b)) ∧ w = w' := by
  have HN := Lib.hid (fun x wx => isNaN x wx)
  unfold ordZ
  by_cases h1 : a < b
  · rw [if_pos h1]
    go_enter Try.func11, Try.ntmps11
    go_wp2_with (go_at_call 15; (with_reducible refine (HN.out _ _).mono ?_); rintro e w1 ⟨rfl, rfl⟩)
    go_ret
    exact ⟨rfl, rfl⟩
  · by_cases h2 : b < a
    · rw [if_neg h1, if_pos h2]
      go_enter Try.func11, Try.ntmps11
      go_wp2_with (go_at_call 15; (with_reducible refine (HN.out _ _).mono ?_); rintro e w1 ⟨rfl, rfl⟩)
      go_ret
      exact ⟨rfl, rfl⟩
    · rw [if_neg h1, if_neg h2]
      go_enter Try.func11, Try.ntmps11
      go_wp2_with (go_at_call 15; (with_reducible refine (HN.out _ _).mono ?_); rintro e w1 ⟨rfl, rfl⟩)
      go_ret
      exact ⟨rfl, rfl⟩
abbrev cmpV : Value := .func (Fn.func 10) #[] #[]
theorem byKey (k t k' t' : Int) (w : World) : Calls Try.prog 10 #[itb k t, itb k' t'] w fun e w' => e = .returned (.int .i64 (ordZ k k')) ∧ Same w w' := by
  have HC := Lib.hid (fun wx => compare k k' wx)
  go_enter Try.func10, Try.ntmps10
  go_wp2_with (go_at_call 11; (with_reducible refine (HC.out _).mono ?_); rintro e w1 ⟨rfl, rfl⟩)
  go_ret
  exact ⟨rfl, ((Only.refl _ _).alloc _).alloc _⟩

/-- the two structs that are compared -/
def S4 (g i j : Nat) (k t k' t' : Int) (w : World) : Prop := w.cell? ⟨g, i * 2, none⟩ = some (.int .i64 k) ∧ w.cell? ⟨g, i * 2 + 1, none⟩ = some (.int .i64 t) ∧ w.cell? ⟨g, j * 2, none⟩ = some (.int .i64 k') ∧ w.cell? ⟨g, j * 2 + 1, none⟩ = some (.int .i64 t')
theorem S4.same {g i j : Nat} {k t k' t' : Int} {w w' : World} (h : S4 g i j k t k' t' w) (hs : Same w w') : S4 g i j k t k' t' w' := by
  obtain ⟨h1, h2, h3, h4⟩ := h
  have q : ∀ (i : Nat) v, w.cell? ⟨g, i, none⟩ = some v → w'.cell? ⟨g, i, none⟩ = some v := fun i v h => (hs.cell (p := ⟨g, i, none⟩) (World.block_lt_of_cell? w _ h) id).trans h
  exact ⟨q _ _ h1, q _ _ h2, q _ _ h3, q _ _ h4⟩
theorem cmp4 (g i j : Nat) (k t k' t' : Int) (w : World) (h : S4 g i j k t k' t' w) : Calls Try.prog 10 #[itb k t, itb k' t'] w fun e w' => e = .returned (.int .i64 (ordZ k k')) ∧ S4 g i j k t k' t' w' ∧ Same w w' :=
  (byKey k t k' t' w).mono fun e w' ⟨he, hs⟩ => ⟨he, h.same hs, hs⟩
theorem Mi.s4 {w : World} {g n cap : Nat} {L : List It} (h : Mi w g n cap L) {i j : Nat} {x y : It} (hx : L[i]? = some x) (hy : L[j]? = some y) : S4 g i j x.key x.tag y.key y.tag w :=
  ⟨(h.cell hx).1, (h.cell hx).2, (h.cell hy).1, (h.cell hy).2⟩
theorem ord_lt {a b : Int} : (ordZ a b < 0) = (a < b) := by
  unfold ordZ
  split
  · simp [*]
  · split <;> simp [*]

/-- what comes of sorting a part -/
def InP (a b g n cap : Nat) (L : List It) (w : World) (e : Ending) (w' : World) : Prop :=
  e = .returned (.tuple #[]) ∧ ∃ L', Mv a b L L' ∧ Srt a b L' ∧ Mi w' g n cap L' ∧ Only (At (some ⟨g, 0, none⟩)) w w'

set_option maxRecDepth 100000 in
set_option maxHeartbeats 3200000 in
theorem insertion (a b g n cap : Nat) (L : List It) (w : World) (h : Mi w g n cap L) (hab : a ≤ b) (hn : b ≤ n) (hsz : n < 1000000) :
    Calls Try.prog 19 #[.slice (some ⟨g, 0, none⟩) n cap, .int .i64 (a : Int), .int .i64 (b : Int), cmpV] w (InP a b g n cap L w) := by
  have hbd := h.bound
  have hl := h.2
  have HM := Lib.hid h
  have HL := Lib.hid hl
  clear h hl
  go_enter Try.func19, Try.ntmps19
  go_wp2_with fail
  go_loopw [8] (fun i wr => ∃ (c : Nat), i = .int .i64 (c : Int) ∧ a < c ∧ c ≤ b + 1 ∧ Hid (∃ L', Mv a b L L' ∧ Srt a c L' ∧ Mi wr g n cap L' ∧ Only (At (some ⟨g, 0, none⟩)) w wr)) (fun i _ => b + 1 - (intOf i).toNat)
  case atStart => exact ⟨a + 1, by go_num, by omega, by omega, Lib.hid ⟨L, Mv.refl _ _ _, Srt.none (by omega) _, HM.out, Only.refl _ _⟩⟩
  case round =>
    obtain ⟨c, rfl, hac, hcb, HI⟩ := hrel
    by_cases hlt : c < b
    · have hlt' : (c : Int) < (b : Int) := by omega
      go_wp2_with fail
      go_loopw [9] (fun i wx => ∃ (j : Nat), i = .int .i64 (j : Int) ∧ a ≤ j ∧ j ≤ c ∧ Hid (∃ L', Mv a b L L' ∧ InsAt a j (c + 1) L' ∧ Mi wx g n cap L' ∧ Only (At (some ⟨g, 0, none⟩)) w wx)) (fun i _ => (intOf i).toNat)
      case atStart =>
        obtain ⟨L', h1, h2, h3, h4⟩ := HI.out
        exact ⟨c, rfl, by omega, Nat.le_refl _, Lib.hid ⟨L', h1, InsAt.start h2 (by omega), h3, h4⟩⟩
      case round =>
        clear HI
        obtain ⟨j, rfl, haj, hjc, HJ⟩ := hrel
        obtain ⟨L', h1, h2, h3, h4⟩ := HJ.out
        have HP := Lib.hid (And.intro h1 (And.intro h2 (And.intro h3 h4)))
        clear h1 h2 h3 h4 HJ
        have hll : L'.length = n := by rw [HP.out.1.len, HL.out]
        by_cases hj : a < j
        · have hj' : (a : Int) < (j : Int) := by omega
          obtain ⟨p, hp⟩ : ∃ p, j - 1 = p := ⟨_, rfl⟩
          obtain ⟨⟨k1, t1⟩, hx⟩ : ∃ x, L'[j]? = some x := ⟨_, List.getElem?_eq_getElem (by omega)⟩
          obtain ⟨⟨k2, t2⟩, hy⟩ : ∃ x, L'[p]? = some x := ⟨_, List.getElem?_eq_getElem (by omega)⟩
          have hS := HP.out.2.2.1.s4 hx hy
          have HK := Lib.hid (And.intro (kAt_eq hx) (kAt_eq hy))
          have HXY := Lib.hid (And.intro hx hy)
          have HPJ := Lib.hid hp
          have e1 : (j : Int) - 1 = (p : Int) := by omega
          have e2 := i64_nat (k := p) (by omega)
          have j0 : (0 : Int) ≤ (j : Int) := by omega
          have jn : (j : Int) < (n : Int) := by omega
          have p0 : (0 : Int) ≤ (p : Int) := by omega
          have pn : (p : Int) < (n : Int) := by omega
          have HC : Hid (∀ wx, S4 g j p k1 t1 k2 t2 wx → Calls Try.prog 10 #[itb k1 t1, itb k2 t2] wx fun e w' => e = .returned (.int .i64 (ordZ k1 k2)) ∧ S4 g j p k1 t1 k2 t2 w' ∧ Same wx w') := Lib.hid (fun wx h => cmp4 g j p k1 t1 k2 t2 wx h)
          obtain ⟨s1, s2, s3, s4⟩ := hS
          replace s1 : wr.cell? ⟨g, j * 2, none⟩ = some (.int .i64 k1) := s1
          replace s2 : wr.cell? ⟨g, j * 2 + 1, none⟩ = some (.int .i64 t1) := s2
          replace s3 : wr.cell? ⟨g, p * 2, none⟩ = some (.int .i64 k2) := s3
          replace s4 : wr.cell? ⟨g, p * 2 + 1, none⟩ = some (.int .i64 t2) := s4
          clear hx hy hp hll
          go_wp2_with fail
          go_region_held3 (fun w' => w'.cell? ⟨g, j * 2, none⟩ = some (.int .i64 k1) ∧ w'.cell? ⟨g, j * 2 + 1, none⟩ = some (.int .i64 t1) ∧ w'.cell? ⟨g, p * 2, none⟩ = some (.int .i64 k2) ∧ w'.cell? ⟨g, p * 2 + 1, none⟩ = some (.int .i64 t2)) (go_keep)
            (first | (go_at_call 10; refine (HC.out _ ⟨?_, ?_, ?_, ?_⟩).mono ?_; (simp [*]); (simp [*]); (simp [*]); (simp [*]); rintro e w4 ⟨rfl, ⟨r1, r2, r3, r4⟩, hs4⟩))
          have HS4 : Hid (Same wr w4) := Lib.hid (Only.undrew hs4)
          clear hs4 HC
          by_cases hcmp : k1 < k2
          · have hM4 := OS.still HP.out.2.2.1 HS4.out
            have fr : ∀ i, w4.frozen? ⟨g, i, none⟩ = false := fun i => hM4.1.frozen rfl i
            have HN : Hid (∀ w', w' = exW w4 g j p ⟨k1, t1⟩ ⟨k2, t2⟩ → ∃ L', Mv a b L L' ∧ InsAt a p (c + 1) L' ∧ Mi w'.drew g n cap L' ∧ Only (At (some ⟨g, 0, none⟩)) w w'.drew) := Lib.hid (by
              rintro w' rfl
              have h2 := Mi.swap hM4 HXY.out.1 HXY.out.2
              have hll : L'.length = n := by rw [HP.out.1.len, HL.out]
              have hpj := HPJ.out
              refine ⟨_, HP.out.1.trans (Mv.swap (i := j) (j := p) (by omega) (by omega) (by omega)), ?_, ⟨h2.1.1.drew, h2.1.2⟩, ((HP.out.2.2.2.trans HS4.out (fun _ _ f => f.elim)).trans h2.2 (fun _ _ f => f)).drew⟩
              subst hpj
              exact HP.out.2.1.step (by omega) hj (by rw [HK.out.1, HK.out.2]; exact hcmp))
            have f0 := fr (p * 2)
            have f1 := fr (p * 2 + 1)
            have f2 := fr (j * 2)
            have f3 := fr (j * 2 + 1)
            have hpj2 : p < j := by have := HPJ.out; omega
            have hap : a ≤ p := by have := HPJ.out; omega
            rw [ord_neg hcmp]
            clear fr hM4 hcmp
            go_wp2_with fail
            go_region
            all_goals go_wp2
            all_goals (go_roundw; (case rel => exact ⟨p, by go_num, by omega, by omega, Lib.hid (HN.out _ rfl)⟩); (case measure => simp [intOf]; omega))
          · have HF : Hid (∃ L', Mv a b L L' ∧ Srt a (c + 1) L' ∧ Mi w4 g n cap L' ∧ Only (At (some ⟨g, 0, none⟩)) w w4) := Lib.hid
              ⟨L', HP.out.1, HP.out.2.1.done (.inr (by rw [HPJ.out, HK.out.1, HK.out.2]; omega)), OS.still HP.out.2.2.1 HS4.out, HP.out.2.2.2.trans HS4.out (fun _ _ f => f.elim)⟩
            have hge : ¬ ordZ k1 k2 < 0 := by rw [ord_lt]; exact hcmp
            clear hcmp
            generalize ordZ k1 k2 = oz at *
            go_wp2_with fail
            go_roundw
            case rel => exact ⟨c + 1, by go_num, by omega, by omega, HF⟩
            case measure => simp [intOf]; omega
        · have hj' : decide ((a : Int) < (j : Int)) = false := by simp; omega
          have hj2 : j = a := by omega
          have HF : Hid (∀ k, ∃ L', Mv a b L L' ∧ Srt a (c + 1) L' ∧ Mi (wr.drewN k) g n cap L' ∧ Only (At (some ⟨g, 0, none⟩)) w (wr.drewN k)) := Lib.hid
            (fun k => ⟨L', HP.out.1, HP.out.2.1.done (.inl hj2), OS.still HP.out.2.2.1 ((Only.refl _ _).drewN k), HP.out.2.2.2.drewN k⟩)
          clear hj2
          go_wp2_with fail
          go_quiet (fail)
          go_wp2_with fail
          go_roundw
          case rel => exact ⟨c + 1, by go_num, by omega, by omega, Lib.hid (HF.out _)⟩
          case measure => simp [intOf]; omega
    · have hlt' : ¬ (c : Int) < (b : Int) := by omega
      go_wp2_with fail
      go_end0
      refine ⟨rfl, ?_⟩
      obtain ⟨L', h1, h2, h3, h4⟩ := HI.out
      exact ⟨L', h1, h2.part (Nat.le_refl _) (by omega), h3, h4⟩
end Go.Proofs.Ytceonnacpakjhaa.mg

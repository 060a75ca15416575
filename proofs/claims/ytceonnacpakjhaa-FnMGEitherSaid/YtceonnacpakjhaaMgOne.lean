/-
  slices: the symmetric merge where one of the ranges has one element.
-/
import Derived.Test.YtceonnacpakjhaaMgIns
namespace Go.Proofs.Ytceonnacpakjhaa.mg
open Go.RowKit Go.Proofs.Ytceonnacpakjhaa.base Go.Proofs.Ytceonnacpakjhaa.heap Go.Proofs.Ytceonnacpakjhaa.rows Go.Proofs.Ytceonnacpakjhaa.pq
set_option linter.unusedVariables false

/-- all but what stands at j is sorted; what stands ahead of j is not more -/
structure DnAt (a j e : Nat) (L : List It) : Prop where
  le : a ≤ j ∧ j < e
  rest : ∀ p q, a ≤ p → p ≤ q → q < e → p ≠ j → q ≠ j → kAt L p ≤ kAt L q
  dn : ∀ p, a ≤ p → p < j → kAt L p ≤ kAt L j
theorem DnAt.start {a e : Nat} {L : List It} (h : Srt (a + 1) e L) (ha : a < e) : DnAt a a e L :=
  ⟨⟨Nat.le_refl _, ha⟩, fun p q h1 h2 h3 h4 h5 => h p q (by omega) h2 h3, fun p h1 h2 => by omega⟩
theorem DnAt.step {a j e : Nat} {L : List It} (h : DnAt a j e L) (he : e ≤ L.length) (hj : j + 1 < e) (hle : kAt L (j + 1) ≤ kAt L j) : DnAt a (j + 1) e (swapL L j (j + 1)) := by
  have hl := h.le
  have g := fun m => kAt_swap (L := L) (i := j) (j := j + 1) (by omega) (by omega) m
  refine ⟨by omega, fun p q h1 h2 h3 h4 h5 => ?_, fun p h1 h2 => ?_⟩
  · rw [g, g, if_neg h4, if_neg h5]
    by_cases hp : p = j
    · subst hp
      rw [if_pos rfl]
      by_cases hq : q = p
      · rw [if_pos hq]; exact Int.le_refl _
      · rw [if_neg hq]; exact h.rest (p + 1) q (by omega) (by omega) h3 (by omega) hq
    · rw [if_neg hp]
      by_cases hq : q = j
      · rw [if_pos hq]; exact h.rest p (j + 1) h1 (by omega) (by omega) hp (by omega)
      · rw [if_neg hq]; exact h.rest p q h1 h2 h3 hp hq
  · rw [g, g, if_pos rfl, if_neg (by omega)]
    by_cases hp : p = j
    · rw [if_pos hp]; exact hle
    · rw [if_neg hp]; exact h.dn p h1 (by omega)
theorem DnAt.done {a j e : Nat} {L : List It} (h : DnAt a j e L) (hd : j + 1 = e ∨ kAt L j ≤ kAt L (j + 1)) : Srt a e L := fun p q h1 h2 h3 => by
  have hle := h.le
  by_cases hq : q = j
  · subst hq
    by_cases hp : p = q
    · subst hp; exact Int.le_refl _
    · exact h.dn p h1 (by omega)
  · by_cases hp : p = j
    · subst hp
      have h4 := hd.resolve_left (by omega)
      have h5 := h.rest (p + 1) q (by omega) (by omega) h3 (by omega) hq
      omega
    · exact h.rest p q h1 h2 h3 hp hq
theorem u64_nat {k : Nat} (h : k ≤ 9223372036854775807) : IntKind.u64.wrap (k : Int) = (k : Int) := IntWalk.u64_in _ (by omega)

set_option maxRecDepth 100000 in
set_option maxHeartbeats 3200000 in
theorem smA (a m b g n cap : Nat) (L : List It) (w : World) (h : Mi w g n cap L) (ham : a + 1 = m) (hmb : m < b) (hn : b ≤ n) (hsz : n < 1000000) (hs : Srt m b L) :
    Calls Try.prog 20 #[.slice (some ⟨g, 0, none⟩) n cap, .int .i64 (a : Int), .int .i64 (m : Int), .int .i64 (b : Int), cmpV] w (InP a b g n cap L w) := by
  have hbd := h.bound
  have hl := h.2
  have HM := Lib.hid h
  have HL := Lib.hid hl
  have HS := Lib.hid hs
  have HAM := Lib.hid ham
  have c1 : (m : Int) - (a : Int) = 1 := by omega
  have am : a < m := by omega
  obtain ⟨⟨k1, t1⟩, hx⟩ : ∃ x, L[a]? = some x := ⟨_, List.getElem?_eq_getElem (by omega)⟩
  have HX := Lib.hid hx
  have a0 : (0 : Int) ≤ (a : Int) := by omega
  have an : (a : Int) < (n : Int) := by omega
  clear h hl hs hx ham
  go_enter Try.func20, Try.ntmps20
  go_wp2_with fail
  go_loopw [10, 11] (fun x y wr => ∃ (i j : Nat), x = .int .i64 (i : Int) ∧ y = .int .i64 (j : Int) ∧ m ≤ i ∧ i ≤ j ∧ j ≤ b ∧ Hid ((i = m ∨ kAt L (i - 1) < k1) ∧ (j = b ∨ k1 ≤ kAt L j) ∧ Same w wr)) (fun x y _ => (intOf y).toNat - (intOf x).toNat)
  case atStart => exact ⟨m, b, rfl, rfl, Nat.le_refl _, by omega, Nat.le_refl _, Lib.hid ⟨.inl rfl, .inl rfl, Only.refl _ _⟩⟩
  case round =>
    obtain ⟨i, j, rfl, rfl, hmi, hij, hjb, HI⟩ := hrel
    by_cases hlt : i < j
    · have hlt' : (i : Int) < (j : Int) := by omega
      obtain ⟨u, hu⟩ : ∃ u, i + j = u := ⟨_, rfl⟩
      obtain ⟨c, hc⟩ : ∃ c, u / 2 = c := ⟨_, rfl⟩
      have e1 : (i : Int) + (j : Int) = (u : Int) := by omega
      have e2 : (u : Int) / 2 = (c : Int) := by omega
      have e3 := i64_nat (k := u) (by omega)
      have e4 := u64_nat (k := u) (by omega)
      have e5 := i64_nat (k := c) (by omega)
      have hci : i ≤ c ∧ c < j := by omega
      have c0 : (0 : Int) ≤ (c : Int) := by omega
      have cn : (c : Int) < (n : Int) := by omega
      obtain ⟨⟨k2, t2⟩, hy⟩ : ∃ x, L[c]? = some x := ⟨_, List.getElem?_eq_getElem (by have := HL.out; omega)⟩
      have hS := Mi.s4 (OS.still HM.out HI.out.2.2) hy HX.out
      have HK := Lib.hid (kAt_eq hy)
      have HC : Hid (∀ wx, S4 g c a k2 t2 k1 t1 wx → Calls Try.prog 10 #[itb k2 t2, itb k1 t1] wx fun e w' => e = .returned (.int .i64 (ordZ k2 k1)) ∧ S4 g c a k2 t2 k1 t1 w' ∧ Same wx w') := Lib.hid (fun wx h => cmp4 g c a k2 t2 k1 t1 wx h)
      obtain ⟨s1, s2, s3, s4⟩ := hS
      replace s1 : wr.cell? ⟨g, c * 2, none⟩ = some (.int .i64 k2) := s1
      replace s2 : wr.cell? ⟨g, c * 2 + 1, none⟩ = some (.int .i64 t2) := s2
      replace s3 : wr.cell? ⟨g, a * 2, none⟩ = some (.int .i64 k1) := s3
      replace s4 : wr.cell? ⟨g, a * 2 + 1, none⟩ = some (.int .i64 t1) := s4
      clear hy hu hc
      go_wp2_with fail
      go_region_held3 (fun w' => w'.cell? ⟨g, c * 2, none⟩ = some (.int .i64 k2) ∧ w'.cell? ⟨g, c * 2 + 1, none⟩ = some (.int .i64 t2) ∧ w'.cell? ⟨g, a * 2, none⟩ = some (.int .i64 k1) ∧ w'.cell? ⟨g, a * 2 + 1, none⟩ = some (.int .i64 t1)) (go_keep)
        (first | (go_at_call 10; refine (HC.out _ ⟨?_, ?_, ?_, ?_⟩).mono ?_; (simp [*]); (simp [*]); (simp [*]); (simp [*]); rintro e w4 ⟨rfl, ⟨r1, r2, r3, r4⟩, hs4⟩))
      have HS4 : Hid (Same w w4) := Lib.hid (HI.out.2.2.trans (Only.undrew hs4))
      clear hs4 HC r1 r2 r3 r4 s1 s2 s3 s4
      by_cases hcmp : k2 < k1
      · have HN : Hid ((c + 1 = m ∨ kAt L (c + 1 - 1) < k1) ∧ (j = b ∨ k1 ≤ kAt L j) ∧ Same w w4) := Lib.hid ⟨.inr (by rw [Nat.add_sub_cancel, HK.out]; exact hcmp), HI.out.2.1, HS4.out⟩
        rw [ord_neg hcmp]
        clear hcmp HI HS4 HK
        go_wp2_with fail
        go_roundw
        case rel => exact ⟨c + 1, j, by go_num, rfl, by omega, by omega, by omega, HN⟩
        case measure => simp [intOf]; omega
      · have HN : Hid ((i = m ∨ kAt L (i - 1) < k1) ∧ (c = b ∨ k1 ≤ kAt L c) ∧ Same w w4) := Lib.hid ⟨HI.out.1, .inr (by rw [HK.out]; show k1 ≤ k2; omega), HS4.out⟩
        have hge : ¬ ordZ k2 k1 < 0 := by rw [ord_lt]; exact hcmp
        clear hcmp HI HS4 HK
        generalize ordZ k2 k1 = oz at *
        go_wp2_with fail
        go_roundw
        case rel => exact ⟨i, c, rfl, rfl, by omega, by omega, by omega, HN⟩
        case measure => simp [intOf]; omega
    · have hlt' : ¬ (i : Int) < (j : Int) := by omega
      have : i = j := by omega
      subst this
      have HKA := Lib.hid (kAt_eq HX.out)
      obtain ⟨i1, hi1⟩ : ∃ i1, i - 1 = i1 := ⟨_, rfl⟩
      have e1 : (i : Int) - 1 = (i1 : Int) := by omega
      have e2 := i64_nat (k := i1) (by omega)
      have HI1 := Lib.hid hi1
      have hi1b : i1 < b := by omega
      have hai1 : a ≤ i1 := by omega
      clear hi1 hlt hij
      go_wp2_with fail
      go_loopw [13] (fun x wx => ∃ (k : Nat), x = .int .i64 (k : Int) ∧ a ≤ k ∧ k ≤ i1 ∧ Hid (∃ L', Mv a b L L' ∧ DnAt a k b L' ∧ kAt L' k = k1 ∧ (∀ q, k < q → L'[q]? = L[q]?) ∧ Mi wx g n cap L' ∧ Only (At (some ⟨g, 0, none⟩)) w wx)) (fun x _ => i1 - (intOf x).toNat)
      case atStart => exact ⟨a, rfl, Nat.le_refl _, hai1, Lib.hid ⟨L, Mv.refl _ _ _, DnAt.start (by rw [HAM.out]; exact HS.out) (by omega), HKA.out, fun _ _ => rfl, OS.still HM.out HI.out.2.2, HI.out.2.2.mono (fun _ _ f => f.elim)⟩⟩
      case round =>
        obtain ⟨k, rfl, hak, hki, HJ⟩ := hrel
        have HIO := Lib.hid (And.intro HI.out.1 HI.out.2.1)
        obtain ⟨L', h1, h2, h3, h4, h5, h6⟩ := HJ.out
        have HP := Lib.hid (And.intro (And.intro h1 h2) (And.intro (And.intro h3 h4) (And.intro h5 h6)))
        clear h1 h2 h3 h4 h5 h6 HJ HI
        have hll : L'.length = n := by rw [HP.out.1.1.len, HL.out]
        by_cases hk : k < i1
        · have hk' : (k : Int) < (i1 : Int) := by omega
          obtain ⟨p, hp⟩ : ∃ p, k + 1 = p := ⟨_, rfl⟩
          obtain ⟨⟨x1, y1⟩, hx⟩ : ∃ x, L'[k]? = some x := ⟨_, List.getElem?_eq_getElem (by omega)⟩
          obtain ⟨⟨x2, y2⟩, hy⟩ : ∃ x, L'[p]? = some x := ⟨_, List.getElem?_eq_getElem (by omega)⟩
          have hM4 := HP.out.2.2.1
          have fr : ∀ i, wr.frozen? ⟨g, i, none⟩ = false := fun i => hM4.1.frozen rfl i
          have HN : Hid (∀ w', w' = exW wr g k p ⟨x1, y1⟩ ⟨x2, y2⟩ → ∃ L', Mv a b L L' ∧ DnAt a p b L' ∧ kAt L' p = k1 ∧ (∀ q, p < q → L'[q]? = L[q]?) ∧ Mi w'.drew g n cap L' ∧ Only (At (some ⟨g, 0, none⟩)) w w'.drew) := Lib.hid (by
            rintro w' rfl
            have h2 := Mi.swap hM4 hx hy
            have hi := HI1.out
            have ham := HAM.out
            have hio : kAt L (i - 1) < k1 := HIO.out.1.resolve_left (by omega)
            have hle : kAt L (k + 1) ≤ kAt L (i - 1) := HS.out _ _ (by omega) (by omega) (by omega)
            have hk2 : kAt L' (k + 1) = kAt L (k + 1) := kAt_of (HP.out.2.1.2 _ (by omega))
            subst hp
            refine ⟨_, HP.out.1.1.trans (Mv.swap (i := k) (j := k + 1) (by omega) (by omega) (by omega)), HP.out.1.2.step (by omega) (by omega) (by rw [hk2, HP.out.2.1.1]; omega), ?_, fun q hq => ?_, ⟨h2.1.1.drew, h2.1.2⟩, (HP.out.2.2.2.trans h2.2 (fun _ _ f => f)).drew⟩
            · rw [kAt_swap (by omega) (by omega), if_pos rfl]; exact HP.out.2.1.1
            · rw [swapL_get (by omega) (by omega), if_neg (by omega), if_neg (by omega)]; exact HP.out.2.1.2 q (by omega))
          have c0 := (Mi.cell hM4 hx).1
          have c1' := (Mi.cell hM4 hx).2
          have c2 := (Mi.cell hM4 hy).1
          have c3 := (Mi.cell hM4 hy).2
          have f0 := fr (k * 2)
          have f1 := fr (k * 2 + 1)
          have f2 := fr (p * 2)
          have f3 := fr (p * 2 + 1)
          have q1 : (k : Int) + 1 = (p : Int) := by omega
          have q2 := i64_nat (k := p) (by omega)
          have k0 : (0 : Int) ≤ (k : Int) := by omega
          have kn : (k : Int) < (n : Int) := by omega
          have p0 : (0 : Int) ≤ (p : Int) := by omega
          have pn : (p : Int) < (n : Int) := by omega
          have hpk : p ≤ i1 ∧ k < p := by omega
          clear hx hy fr hM4 hp hll
          go_wp2_with fail
          go_region
          all_goals go_wp2
          all_goals (go_roundw; (case rel => exact ⟨p, by go_num, by omega, by omega, Lib.hid (HN.out _ rfl)⟩); (case measure => simp [intOf]; omega))
        · have hk' : ¬ (k : Int) < (i1 : Int) := by omega
          have HF : Hid (∃ L', Mv a b L L' ∧ Srt a b L' ∧ Mi wr g n cap L' ∧ Only (At (some ⟨g, 0, none⟩)) w wr) := Lib.hid ⟨L', HP.out.1.1, HP.out.1.2.done (by
            have := HI1.out
            rcases HIO.out.2 with h | h
            · exact .inl (by omega)
            · by_cases hb : k + 1 = b
              · exact .inl hb
              · right
                rw [HP.out.2.1.1, kAt_of (HP.out.2.1.2 (k + 1) (by omega)), show k + 1 = i by omega]
                exact h), HP.out.2.2.1, HP.out.2.2.2⟩
          clear hk
          go_wp2_with fail
          refine bodyPost_ret (results_none rfl _ _ _) rfl ?_
          exact ⟨rfl, HF.out⟩

set_option maxRecDepth 100000 in
set_option maxHeartbeats 3200000 in
theorem smB (a m b g n cap : Nat) (L : List It) (w : World) (h : Mi w g n cap L) (ham : a + 1 < m) (hmb : m + 1 = b) (hn : b ≤ n) (hsz : n < 1000000) (hs : Srt a m L) :
    Calls Try.prog 20 #[.slice (some ⟨g, 0, none⟩) n cap, .int .i64 (a : Int), .int .i64 (m : Int), .int .i64 (b : Int), cmpV] w (InP a b g n cap L w) := by
  have hbd := h.bound
  have hl := h.2
  have HM := Lib.hid h
  have HL := Lib.hid hl
  have HS := Lib.hid hs
  have HMB := Lib.hid hmb
  obtain ⟨d, hd⟩ : ∃ d, m - a = d := ⟨_, rfl⟩
  have d1 : (m : Int) - (a : Int) = (d : Int) := by omega
  have d2 := i64_nat (k := d) (by omega)
  have d3 : ¬ (d : Int) = 1 := by omega
  have c1 : (b : Int) - (m : Int) = 1 := by omega
  have am : a < m := by omega
  have mb : m < b := by omega
  obtain ⟨⟨k1, t1⟩, hx⟩ : ∃ x, L[m]? = some x := ⟨_, List.getElem?_eq_getElem (by omega)⟩
  have HX := Lib.hid hx
  have m0 : (0 : Int) ≤ (m : Int) := by omega
  have mn : (m : Int) < (n : Int) := by omega
  clear h hl hs hx ham hmb hd
  go_enter Try.func20, Try.ntmps20
  go_wp2_with fail
  rw [show ((d : Int) == 1) = false by simpa using d3]
  go_loopw [14, 15] (fun x y wr => ∃ (i j : Nat), x = .int .i64 (i : Int) ∧ y = .int .i64 (j : Int) ∧ a ≤ i ∧ i ≤ j ∧ j ≤ m ∧ Hid ((i = a ∨ kAt L (i - 1) ≤ k1) ∧ (j = m ∨ k1 < kAt L j) ∧ Same w wr)) (fun x y _ => (intOf y).toNat - (intOf x).toNat)
  case atStart => exact ⟨a, m, rfl, rfl, Nat.le_refl _, by omega, Nat.le_refl _, Lib.hid ⟨.inl rfl, .inl rfl, Only.refl _ _⟩⟩
  case round =>
    obtain ⟨i, j, rfl, rfl, hai, hij, hjm, HI⟩ := hrel
    by_cases hlt : i < j
    · have hlt' : (i : Int) < (j : Int) := by omega
      obtain ⟨u, hu⟩ : ∃ u, i + j = u := ⟨_, rfl⟩
      obtain ⟨c, hc⟩ : ∃ c, u / 2 = c := ⟨_, rfl⟩
      have e1 : (i : Int) + (j : Int) = (u : Int) := by omega
      have e2 : (u : Int) / 2 = (c : Int) := by omega
      have e3 := i64_nat (k := u) (by omega)
      have e4 := u64_nat (k := u) (by omega)
      have e5 := i64_nat (k := c) (by omega)
      have hci : i ≤ c ∧ c < j := by omega
      have c0 : (0 : Int) ≤ (c : Int) := by omega
      have cn : (c : Int) < (n : Int) := by omega
      obtain ⟨⟨k2, t2⟩, hy⟩ : ∃ x, L[c]? = some x := ⟨_, List.getElem?_eq_getElem (by have := HL.out; omega)⟩
      have hS := Mi.s4 (OS.still HM.out HI.out.2.2) HX.out hy
      have HK := Lib.hid (kAt_eq hy)
      have HC : Hid (∀ wx, S4 g m c k1 t1 k2 t2 wx → Calls Try.prog 10 #[itb k1 t1, itb k2 t2] wx fun e w' => e = .returned (.int .i64 (ordZ k1 k2)) ∧ S4 g m c k1 t1 k2 t2 w' ∧ Same wx w') := Lib.hid (fun wx h => cmp4 g m c k1 t1 k2 t2 wx h)
      obtain ⟨s1, s2, s3, s4⟩ := hS
      replace s1 : wr.cell? ⟨g, m * 2, none⟩ = some (.int .i64 k1) := s1
      replace s2 : wr.cell? ⟨g, m * 2 + 1, none⟩ = some (.int .i64 t1) := s2
      replace s3 : wr.cell? ⟨g, c * 2, none⟩ = some (.int .i64 k2) := s3
      replace s4 : wr.cell? ⟨g, c * 2 + 1, none⟩ = some (.int .i64 t2) := s4
      clear hy hu hc
      go_wp2_with fail
      go_region_held3 (fun w' => w'.cell? ⟨g, m * 2, none⟩ = some (.int .i64 k1) ∧ w'.cell? ⟨g, m * 2 + 1, none⟩ = some (.int .i64 t1) ∧ w'.cell? ⟨g, c * 2, none⟩ = some (.int .i64 k2) ∧ w'.cell? ⟨g, c * 2 + 1, none⟩ = some (.int .i64 t2)) (go_keep)
        (first | (go_at_call 10; refine (HC.out _ ⟨?_, ?_, ?_, ?_⟩).mono ?_; (simp [*]); (simp [*]); (simp [*]); (simp [*]); rintro e w4 ⟨rfl, ⟨r1, r2, r3, r4⟩, hs4⟩))
      have HS4 : Hid (Same w w4) := Lib.hid (HI.out.2.2.trans (Only.undrew hs4))
      clear hs4 HC r1 r2 r3 r4 s1 s2 s3 s4
      by_cases hcmp : k1 < k2
      · have HN : Hid ((i = a ∨ kAt L (i - 1) ≤ k1) ∧ (c = m ∨ k1 < kAt L c) ∧ Same w w4) := Lib.hid ⟨HI.out.1, .inr (by rw [HK.out]; exact hcmp), HS4.out⟩
        rw [ord_neg hcmp]
        clear hcmp HI HS4 HK
        go_wp2_with fail
        go_roundw
        case rel => exact ⟨i, c, rfl, rfl, by omega, by omega, by omega, HN⟩
        case measure => simp [intOf]; omega
      · have HN : Hid ((c + 1 = a ∨ kAt L (c + 1 - 1) ≤ k1) ∧ (j = m ∨ k1 < kAt L j) ∧ Same w w4) := Lib.hid ⟨.inr (by rw [Nat.add_sub_cancel, HK.out]; show k2 ≤ k1; omega), HI.out.2.1, HS4.out⟩
        have hge : ¬ ordZ k1 k2 < 0 := by rw [ord_lt]; exact hcmp
        clear hcmp HI HS4 HK
        generalize ordZ k1 k2 = oz at *
        have hge2 : decide (oz < 0) = false := decide_eq_false hge
        rw [hge2]
        go_wp2_with fail
        go_roundw
        case rel => exact ⟨c + 1, j, by go_num, rfl, by omega, by omega, by omega, HN⟩
        case measure => simp [intOf]; omega
    · have hlt' : ¬ (i : Int) < (j : Int) := by omega
      have : i = j := by omega
      subst this
      have HKA := Lib.hid (kAt_eq HX.out)
      clear hlt hij
      go_wp2_with fail
      go_loopw [17] (fun x wx => ∃ (k : Nat), x = .int .i64 (k : Int) ∧ i ≤ k ∧ k ≤ m ∧ Hid (∃ L', Mv a b L L' ∧ InsAt a k b L' ∧ kAt L' k = k1 ∧ (∀ q, q < k → L'[q]? = L[q]?) ∧ Mi wx g n cap L' ∧ Only (At (some ⟨g, 0, none⟩)) w wx)) (fun x _ => (intOf x).toNat)
      case atStart => exact ⟨m, rfl, hjm, Nat.le_refl _, Lib.hid ⟨L, Mv.refl _ _ _, by rw [← HMB.out]; exact InsAt.start HS.out (by omega), HKA.out, fun _ _ => rfl, OS.still HM.out HI.out.2.2, HI.out.2.2.mono (fun _ _ f => f.elim)⟩⟩
      case round =>
        obtain ⟨k, rfl, hik, hkm, HJ⟩ := hrel
        have HIO := Lib.hid (And.intro HI.out.1 HI.out.2.1)
        obtain ⟨L', h1, h2, h3, h4, h5, h6⟩ := HJ.out
        have HP := Lib.hid (And.intro (And.intro h1 h2) (And.intro (And.intro h3 h4) (And.intro h5 h6)))
        clear h1 h2 h3 h4 h5 h6 HJ HI
        have hll : L'.length = n := by rw [HP.out.1.1.len, HL.out]
        by_cases hk : i < k
        · have hk' : (i : Int) < (k : Int) := by omega
          obtain ⟨p, hp⟩ : ∃ p, k - 1 = p := ⟨_, rfl⟩
          obtain ⟨⟨x1, y1⟩, hx⟩ : ∃ x, L'[k]? = some x := ⟨_, List.getElem?_eq_getElem (by omega)⟩
          obtain ⟨⟨x2, y2⟩, hy⟩ : ∃ x, L'[p]? = some x := ⟨_, List.getElem?_eq_getElem (by omega)⟩
          have hM4 := HP.out.2.2.1
          have fr : ∀ i, wr.frozen? ⟨g, i, none⟩ = false := fun i => hM4.1.frozen rfl i
          have HN : Hid (∀ w', w' = exW wr g k p ⟨x1, y1⟩ ⟨x2, y2⟩ → ∃ L', Mv a b L L' ∧ InsAt a p b L' ∧ kAt L' p = k1 ∧ (∀ q, q < p → L'[q]? = L[q]?) ∧ Mi w'.drew g n cap L' ∧ Only (At (some ⟨g, 0, none⟩)) w w'.drew) := Lib.hid (by
            rintro w' rfl
            have h2 := Mi.swap hM4 hx hy
            have hio : k1 < kAt L i := HIO.out.2.resolve_left (by omega)
            have hle : kAt L i ≤ kAt L (k - 1) := HS.out _ _ (by omega) (by omega) (by omega)
            have hk2 : kAt L' (k - 1) = kAt L (k - 1) := kAt_of (HP.out.2.1.2 _ (by omega))
            subst hp
            refine ⟨_, HP.out.1.1.trans (Mv.swap (i := k) (j := k - 1) (by omega) (by omega) (by omega)), HP.out.1.2.step (by omega) (by omega) (by rw [hk2, HP.out.2.1.1]; omega), ?_, fun q hq => ?_, ⟨h2.1.1.drew, h2.1.2⟩, (HP.out.2.2.2.trans h2.2 (fun _ _ f => f)).drew⟩
            · rw [kAt_swap (by omega) (by omega), if_pos rfl]; exact HP.out.2.1.1
            · rw [swapL_get (by omega) (by omega), if_neg (by omega), if_neg (by omega)]; exact HP.out.2.1.2 q (by omega))
          have c0 := (Mi.cell hM4 hx).1
          have c1' := (Mi.cell hM4 hx).2
          have c2 := (Mi.cell hM4 hy).1
          have c3 := (Mi.cell hM4 hy).2
          have f0 := fr (k * 2)
          have f1 := fr (k * 2 + 1)
          have f2 := fr (p * 2)
          have f3 := fr (p * 2 + 1)
          have q1 : (k : Int) - 1 = (p : Int) := by omega
          have q2 := i64_nat (k := p) (by omega)
          have k0 : (0 : Int) ≤ (k : Int) := by omega
          have kn : (k : Int) < (n : Int) := by omega
          have p0 : (0 : Int) ≤ (p : Int) := by omega
          have pn : (p : Int) < (n : Int) := by omega
          have hpk : i ≤ p ∧ p < k := by omega
          clear hx hy fr hM4 hp hll
          go_wp2_with fail
          go_region
          all_goals go_wp2
          all_goals (go_roundw; (case rel => exact ⟨p, by go_num, by omega, by omega, Lib.hid (HN.out _ rfl)⟩); (case measure => simp [intOf]; omega))
        · have hk' : ¬ (i : Int) < (k : Int) := by omega
          have HF : Hid (∃ L', Mv a b L L' ∧ Srt a b L' ∧ Mi wr g n cap L' ∧ Only (At (some ⟨g, 0, none⟩)) w wr) := Lib.hid ⟨L', HP.out.1.1, HP.out.1.2.done (by
            rcases HIO.out.1 with h | h
            · exact .inl (by omega)
            · by_cases hb : k = a
              · exact .inl hb
              · right
                rw [HP.out.2.1.1, kAt_of (HP.out.2.1.2 (k - 1) (by omega)), show k - 1 = i - 1 by omega]
                exact h), HP.out.2.2.1, HP.out.2.2.2⟩
          clear hk
          go_wp2_with fail
          refine bodyPost_ret (results_none rfl _ _ _) rfl ?_
          exact ⟨rfl, HF.out⟩
end Go.Proofs.Ytceonnacpakjhaa.mg

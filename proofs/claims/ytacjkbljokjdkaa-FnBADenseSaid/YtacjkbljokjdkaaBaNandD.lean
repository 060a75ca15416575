/-
  Nand of two dense bit arrays.
-/
import Derived.Test.YtacjkbljokjdkaaBaNew
namespace Go.Proofs.Ytacjkbljokjdkaa.ba
open Go.RowKit Go.Proofs.Ytacjkbljokjdkaa.base Go.Proofs.Ytacjkbljokjdkaa.heap Go.Proofs.Ytacjkbljokjdkaa.rows Go.Proofs.Ytacjkbljokjdkaa.bit Go.Proofs.Ytacjkbljokjdkaa.bs
set_option linter.unusedVariables false

/-- n words, of which k are reckoned -/
def tab (f : Nat → Nat) (k n : Nat) : List Nat := (List.range n).map fun j => if j < k then f j else 0
theorem tab_len (f : Nat → Nat) (k n : Nat) : (tab f k n).length = n := by simp [tab]
theorem tab_get (f : Nat → Nat) (k n j : Nat) : (tab f k n).getD j 0 = if j < n ∧ j < k then f j else 0 := by
  simp only [tab, List.getD_eq_getElem?_getD, List.getElem?_map]
  by_cases h : j < n
  · rw [List.getElem?_range h]; simp [h]
  · rw [List.getElem?_eq_none (by simpa using Nat.le_of_not_lt h)]; simp [h]
theorem tab_zero (f : Nat → Nat) (n : Nat) : tab f 0 n = List.replicate n 0 := by
  apply List.ext_getElem?
  intro j
  simp only [tab, List.getElem?_map, List.getElem?_replicate]
  by_cases h : j < n
  · rw [List.getElem?_range h]; simp [h]
  · rw [List.getElem?_eq_none (by simpa using Nat.le_of_not_lt h)]; simp [h]
theorem tab_set (f : Nat → Nat) (k n : Nat) (h : k < n) : (tab f k n).set k (f k) = tab f (k + 1) n := by
  apply List.ext_getElem?
  intro j
  simp only [tab, List.getElem?_set, List.getElem?_map, List.length_map, List.length_range]
  by_cases hj : j < n
  · rw [List.getElem?_range hj]
    by_cases e : k = j
    · subst e; simp [h]
    · simp only [e, if_false, Option.map_some]
      congr 1
      by_cases h2 : j < k
      · rw [if_pos h2, if_pos (by omega)]
      · rw [if_neg h2, if_neg (by omega)]
  · rw [List.getElem?_eq_none (by simpa using Nat.le_of_not_lt hj)]
    have : ¬ k = j := by omega
    simp [this]

/-- the ends are told -/
def Fin (ws : List Nat) (lo hi : Nat) (any : Bool) : Prop := (NoB ws ∧ lo = 0 ∧ hi = 0 ∧ any = false) ∨ (LoB ws lo ∧ HiB ws hi ∧ any = true)
/-- a new dense bit array of these words, its ends told, behind the interface type -/
def ResD (ws : List Nat) (w : World) (e : Ending) (w' : World) : Prop :=
  ∃ p a c lo hi any, e = .returned (.iface 85 (.pointer (some ⟨p, 0, none⟩))) ∧ Dn w' p a c ws lo hi any ∧ Fin ws lo hi any ∧ Same w w' ∧ ∀ k, Ft p a k → w.heap.size ≤ k

theorem new_only4 {w w1 w2 w3 w4 : World} {p : Nat} {a : Option Addr} (h : Same w w1 ∧ ∀ k, Ft p a k → w.heap.size ≤ k) (h2 : Only (Ft p a) w1 w2) (h3 : Only (fun k => k = p) w2 w3) (h4 : Only (fun k => k = p) w3 w4) : Same w w4 :=
  new_only h.1 ((h2.trans h3 (fun _ _ e => .inl e)).trans h4 (fun _ _ e => .inl e)) h.2

set_option maxRecDepth 100000 in
set_option maxHeartbeats 1600000 in
theorem nandDD {w : World} {p1 c1 lo1 hi1 p2 c2 lo2 hi2 : Nat} {a1 a2 : Option Addr} {ws1 ws2 : List Nat} {any1 any2 : Bool} (h1 : Dn w p1 a1 c1 ws1 lo1 hi1 any1) (h2 : Dn w p2 a2 c2 ws2 lo2 hi2 any2) (hle : ws1.length ≤ ws2.length) :
    Calls Try.prog 75 #[.pointer (some ⟨p1, 0, none⟩), .pointer (some ⟨p2, 0, none⟩)] w (ResD (tab (fun j => nandW (ws1.getD j 0) (ws2.getD j 0)) ws1.length ws1.length) w) := by
  have H1 := Lib.hid h1
  have H2 := Lib.hid h2
  obtain ⟨b1, ha1, hb1, _, c10, _, _, _, _, _, _⟩ := h1.facts
  have hsm := h1.sm
  have hbd1 := h1.row.bound
  have hbd2 := h2.row.bound
  have HLE := Lib.hid hle
  obtain ⟨n, HN⟩ : ∃ n, Hid (ws1.length = n) := ⟨_, Lib.hid rfl⟩
  obtain ⟨n2, HN2⟩ : ∃ n2, Hid (ws2.length = n2) := ⟨_, Lib.hid rfl⟩
  rw [HN.out] at c10 hsm hbd1 hle ⊢
  rw [HN2.out] at hle hbd2
  have HLF : Hid (∀ j, Lt64 (nandW (ws1.getD j 0) (ws2.getD j 0))) := Lib.hid (fun j => nandW_lt (h1.ok.at j))
  have h64 : IntKind.u64.wrap (n : Int) = (n : Int) := by rw [IntKind.wrap_u64]; omega
  have h65 : IntKind.u64.wrap ((n : Int) * 64) = ((64 * n : Nat) : Int) := by rw [IntKind.wrap_u64]; omega
  have HNEW : Hid (Calls Try.prog 31 #[.int .u64 ((64 * n : Nat) : Int), .slice none 0 0] w (NewD (tab (fun j => nandW (ws1.getD j 0) (ws2.getD j 0)) 0 n) 0 0 false w)) := Lib.hid (by
    have := newD0 (64 * n) (by omega) none 0 0 w (.inl rfl)
    rw [show (64 * n + 63) / 64 = n by omega] at this
    rw [tab_zero]; exact this)
  generalize 64 * n = n64 at *
  clear h1 h2
  subst ha1
  go_enter Try.func75, Try.ntmps75
  go_wp2_with fail
  refine HNEW.out.mono ?_
  rintro e w1 ⟨p3, a3, c3, rfl, hd3, hs1, hf3⟩
  have HS1 : Hid (Same w w1 ∧ ∀ k, Ft p3 a3 k → w.heap.size ≤ k) := Lib.hid ⟨hs1, hf3⟩
  have HI0 : Hid (Dn w1 p3 a3 c3 (tab (fun j => nandW (ws1.getD j 0) (ws2.getD j 0)) 0 n) 0 0 false ∧ Only (Ft p3 a3) w1 w1) := Lib.hid ⟨hd3, Only.refl _ _⟩
  clear hd3 hs1 hf3 HNEW
  go_wp2_with fail
  go_loopw [7] (fun i wr => ∃ k : Nat, k ≤ n ∧ i = .int .u64 (k : Int) ∧ Hid (Dn wr p3 a3 c3 (tab (fun j => nandW (ws1.getD j 0) (ws2.getD j 0)) k n) 0 0 false ∧ Only (Ft p3 a3) w1 wr)) (fun i _ => n - (intOf i).toNat)
  case atStart => exact ⟨0, Nat.zero_le _, rfl, HI0⟩
  case round =>
    clear HI0
    obtain ⟨k, hk, rfl, HI⟩ := hrel
    by_cases hkn : k < n
    · have hkn' : (k : Int) < (n : Int) := by omega
      have hk0 : (0 : Int) ≤ (k : Int) := by omega
      have hkn2 : (k : Int) < (n2 : Int) := by omega
      have hap : ∀ {p : Nat} {a : Option Addr}, (∀ j, Ft p a j → j < w.heap.size) → ∀ j, Ft p a j → ¬ Ft p3 a3 j := fun hl j hj hf => by have := hl j hj; have := HS1.out.2 j hf; omega
      obtain ⟨b, ha, _, _, d0, _, _, _, _, hc, _⟩ := ((H1.out.still HS1.out.1).keep HI.out.2 (hap H1.out.lt)).facts
      cases ha
      obtain ⟨b2, ha2, _, _, e0, _, _, _, _, hc2, _⟩ := ((H2.out.still HS1.out.1).keep HI.out.2 (hap H2.out.lt)).facts
      obtain ⟨b3, ha3, hb3, hb3p, g0, _, _, _, _, hc3, hfb⟩ := HI.out.1.facts
      have d1 := hc k (by rw [HN.out]; exact hkn)
      have e1 := hc2 k (by rw [HN2.out]; omega)
      have g1 := hc3 k (by rw [tab_len]; exact hkn)
      have f1 := hfb k
      rw [HN.out] at d0
      rw [HN2.out] at e0
      rw [tab_len] at g0
      have hz : (tab (fun j => nandW (ws1.getD j 0) (ws2.getD j 0)) k n).getD k 0 = 0 := by rw [tab_get, if_neg (by omega)]
      rw [hz] at g1
      have HA3 := Lib.hid ha3
      have HOP : Hid (∀ wx, Calls Try.prog 89 #[.int .u64 ((ws1.getD k 0 : Nat) : Int), .int .u64 ((ws2.getD k 0 : Nat) : Int)] wx fun e w' => e = .returned (.int .u64 ((nandW (ws1.getD k 0) (ws2.getD k 0) : Nat) : Int)) ∧ w' = wx) := Lib.hid (fun wx => nandWc _ _ (H1.out.ok.at k) (H2.out.ok.at k) wx)
      have HST : Hid (∀ w', w' = (wr.setCell ⟨b3, k, none⟩ (.int .u64 ((nandW (ws1.getD k 0) (ws2.getD k 0) : Nat) : Int))).drew → Dn w' p3 a3 c3 (tab (fun j => nandW (ws1.getD j 0) (ws2.getD j 0)) (k + 1) n) 0 0 false ∧ Only (Ft p3 a3) w1 w') := Lib.hid (by
        rintro w' rfl
        obtain ⟨q1, q2⟩ := HI.out.1.put ha3 k (nandW (ws1.getD k 0) (ws2.getD k 0)) (by rw [tab_len]; exact hkn) (HLF.out k) (Only.refl _ _) HI.out.1.obj
        rw [tab_set _ _ _ hkn] at q1
        exact ⟨q1.still ((Only.refl _ _).drew), (HI.out.2.trans q2 (fun _ _ h => h)).drew⟩)
      clear hc hc2 hc3 hfb hz hap c10
      generalize nandW (ws1.getD k 0) (ws2.getD k 0) = y at *
      generalize ws1.getD k 0 = x1 at *
      generalize ws2.getD k 0 = x2 at *
      go_wp2_with fail
      refine wp_region_still_tail 21 (by kernel_rfl) (by kernel_rfl) ?_
      simp only [List.take_succ_cons, List.take_zero, List.drop_succ_cons, List.drop_zero]
      repeat still_step
      still_call (HOP.out _)
      repeat still_step
      refine wpStill_nil ?_
      go_wp2_with fail
      exact ⟨⟨k + 1, by omega, by go_num, Lib.hid (HST.out _ rfl)⟩, by first | (simp [intOf]; done) | (simp [intOf]; omega)⟩
    · have hkn' : ¬ (k : Int) < (n : Int) := by omega
      obtain rfl : k = n := by omega
      have HLO := Lib.hid (setLowest HI.out.1)
      go_wp2_with fail
      refine HLO.out.mono ?_
      clear HLF H1 H2 HLE HN HN2 c10 hsm hbd1 hbd2 hle h64 h65
      rintro e w2 ⟨rfl, ho2, hlo⟩
      have HO2 := Lib.hid ho2
      clear ho2
      rcases hlo with ⟨hnb, hd⟩ | ⟨lo, hlo, hd⟩
      · have HNB := Lib.hid hnb
        have HHI := Lib.hid (setHighest hd)
        clear hnb hd
        go_wp2_with fail
        refine HHI.out.mono ?_
        rintro e w3 ⟨rfl, ho3, hhi⟩
        rcases hhi with ⟨_, hd⟩ | ⟨hi, hhi, _⟩
        · have HD := Lib.hid hd
          clear hd
          have HS : Hid (Same w w3) := Lib.hid (new_only4 HS1.out HI.out.2 HO2.out ho3)
          clear ho3
          go_wp2_with fail
          go_ret
          exact ⟨p3, a3, c3, 0, 0, false, rfl, HD.out, .inl ⟨HNB.out, rfl, rfl, rfl⟩, HS.out, HS1.out.2⟩
        · have := hhi.1; rw [HNB.out hi] at this; cases this
      · have HNB := Lib.hid hlo
        have HHI := Lib.hid (setHighest hd)
        clear hlo hd
        go_wp2_with fail
        refine HHI.out.mono ?_
        rintro e w3 ⟨rfl, ho3, hhi⟩
        rcases hhi with ⟨hnb, _⟩ | ⟨hi, hhi, hd⟩
        · have := HNB.out.1; rw [hnb lo] at this; cases this
        · have HD := Lib.hid hd
          have HH := Lib.hid hhi
          clear hd hhi
          have HS : Hid (Same w w3) := Lib.hid (new_only4 HS1.out HI.out.2 HO2.out ho3)
          clear ho3
          go_wp2_with fail
          go_ret
          exact ⟨p3, a3, c3, lo, hi, true, rfl, HD.out, .inr ⟨HNB.out, HH.out, rfl⟩, HS.out, HS1.out.2⟩
end Go.Proofs.Ytacjkbljokjdkaa.ba

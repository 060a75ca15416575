/-
  The dense bit array in memory: setLowest, setHighest.
-/
import Derived.Test.YtacjkbljokjdkaaBaNums
import Derived.Test.YtacjkbljokjdkaaBaList
import Derived.RegionTactic
import Derived.BigRegion
namespace Go.Proofs.Ytacjkbljokjdkaa.ba
open Go.RowKit Go.Proofs.Ytacjkbljokjdkaa.base Go.Proofs.Ytacjkbljokjdkaa.heap Go.Proofs.Ytacjkbljokjdkaa.rows Go.Proofs.Ytacjkbljokjdkaa.bit Go.Proofs.Ytacjkbljokjdkaa.bs
set_option linter.unusedVariables false

/-- a dense bit array: its object, its blocks -/
structure Dn (w : World) (p : Nat) (a : Option Addr) (c : Nat) (ws : List Nat) (lo hi : Nat) (any : Bool) : Prop where
  obj : w.heap[p]? = some (.cells #[.slice a ws.length c, .int .u64 (lo : Int), .int .u64 (hi : Int), .bool any] 95 (0, 0))
  row : Own 79 1 w a ws.length c (U ws)
  ok : Ok ws
  nn : a ≠ none
  nap : ¬ At a p
  sm : ws.length ≤ 1000000
def Ft (p : Nat) (a : Option Addr) (k : Nat) : Prop := k = p ∨ At a k
section
variable {w w' : World} {p c lo hi : Nat} {a : Option Addr} {ws : List Nat} {any : Bool}
theorem Dn.keep {S : Nat → Prop} (h : Dn w p a c ws lo hi any) (ho : Only S w w') (hn : ∀ k, Ft p a k → ¬ S k) : Dn w' p a c ws lo hi any :=
  ⟨ho.obj h.obj (hn _ (.inl rfl)), h.row.keep ho (fun k hk => hn k (.inr hk)), h.ok, h.nn, h.nap, h.sm⟩
theorem Dn.still (h : Dn w p a c ws lo hi any) (ho : Same w w') : Dn w' p a c ws lo hi any := h.keep ho (fun _ _ => id)
theorem Dn.lt (h : Dn w p a c ws lo hi any) : ∀ k, Ft p a k → k < w.heap.size := by
  rintro k (rfl | hk)
  · exact lt_of_heap h.obj
  · exact h.row.lt k hk
/-- all that a walk asks of it -/
theorem Dn.facts (h : Dn w p a c ws lo hi any) : ∃ b, a = some ⟨b, 0, none⟩ ∧ b < w.heap.size ∧ b ≠ p ∧
    w.cell? ⟨p, 0, none⟩ = some (.slice (some ⟨b, 0, none⟩) ws.length c) ∧ w.cell? ⟨p, 1, none⟩ = some (.int .u64 (lo : Int)) ∧ w.cell? ⟨p, 2, none⟩ = some (.int .u64 (hi : Int)) ∧ w.cell? ⟨p, 3, none⟩ = some (.bool any) ∧
    (∀ j, w.frozen? ⟨p, j, none⟩ = false) ∧ (∀ i, i < ws.length → w.cell? ⟨b, i, none⟩ = some (.int .u64 (ws.getD i 0 : Nat))) ∧ (∀ i, w.frozen? ⟨b, i, none⟩ = false) := by
  rcases h.row.alt with ⟨ha, _⟩ | ⟨b, cur, ha, hb, hs, ht⟩
  · exact absurd ha h.nn
  · have ho := h.obj
    rw [ha] at ho
    refine ⟨b, ha, lt_of_heap hb, fun e => h.nap (by rw [ha, e]; exact rfl), block_cell ho rfl, block_cell ho rfl, block_cell ho rfl, block_cell ho rfl, fun j => block_free ho, fun i hi => ?_, fun i => h.row.frozen ha i⟩
    obtain ⟨b', hb', _, hc⟩ := h.row.at (by omega)
    rw [ha] at hb'
    cases hb'
    have := hc i _ (U_get ws i hi)
    simpa using this
theorem Dn.set3 (h : Dn w p a c ws lo hi any) (lo' hi' : Nat) (any' : Bool) (hw : w'.heap[p]? = some (.cells #[.slice a ws.length c, .int .u64 (lo' : Int), .int .u64 (hi' : Int), .bool any'] 95 (0, 0))) (ho : Only (fun k => k = p) w w') : Dn w' p a c ws lo' hi' any' :=
  ⟨hw, h.row.keep ho (fun k hk e => h.nap (by rw [← e]; exact hk)), h.ok, h.nn, h.nap, h.sm⟩
end
theorem first_word (l : List Nat) (n : Nat) : ∃ d, d ≤ n ∧ (∀ k, k < d → l.getD k 0 = 0) ∧ (d < n → l.getD d 0 ≠ 0) := by
  induction n with
  | zero => exact ⟨0, Nat.le_refl _, fun k hk => absurd hk (by omega), fun h => absurd h (by omega)⟩
  | succ n ih =>
    obtain ⟨d, h1, h2, h3⟩ := ih
    by_cases hd : d < n
    · exact ⟨d, by omega, h2, fun _ => h3 hd⟩
    · have : d = n := by omega
      subst this
      by_cases h0 : l.getD d 0 = 0
      · exact ⟨d + 1, Nat.le_refl _, fun k hk => by
          by_cases e : k = d
          · subst e; exact h0
          · exact h2 k (by omega), fun h => absurd h (by omega)⟩
      · exact ⟨d, by omega, h2, fun _ => h0⟩
theorem last_word (l : List Nat) (n : Nat) : (∀ k, k < n → l.getD k 0 = 0) ∨ ∃ d, d < n ∧ l.getD d 0 ≠ 0 ∧ ∀ k, d < k → k < n → l.getD k 0 = 0 := by
  induction n with
  | zero => exact .inl (fun k hk => absurd hk (by omega))
  | succ n ih =>
    by_cases h0 : l.getD n 0 = 0
    · rcases ih with h | ⟨d, h1, h2, h3⟩
      · exact .inl (fun k hk => by
          by_cases e : k = n
          · subst e; exact h0
          · exact h k (by omega))
      · exact .inr ⟨d, by omega, h2, fun k hk hk2 => by
          by_cases e : k = n
          · subst e; exact h0
          · exact h3 k hk (by omega)⟩
    · exact .inr ⟨n, by omega, h0, fun k hk hk2 => absurd hk2 (by omega)⟩
/-- no bit is set; k is the lowest, the highest one -/
def NoB (ws : List Nat) : Prop := ∀ k, bit ws k = false
def LoB (ws : List Nat) (k : Nat) : Prop := bit ws k = true ∧ ∀ j, bit ws j = true → k ≤ j
def HiB (ws : List Nat) (k : Nat) : Prop := bit ws k = true ∧ ∀ j, bit ws j = true → j ≤ k
theorem no_words {ws : List Nat} (h : ∀ k, k < ws.length → ws.getD k 0 = 0) : NoB ws := fun k => by
  rcases Nat.lt_or_ge k (64 * ws.length) with h1 | h1
  · unfold bit; rw [h (k / 64) (by omega)]; simp
  · exact bit_far ws k h1
theorem lo_word {ws : List Nat} {d t : Nat} (h1 : ∀ k, k < d → ws.getD k 0 = 0) (ht : t < 64) (h : Low (ws.getD d 0) t) : LoB ws (64 * d + t) := by
  constructor
  · unfold bit
    rw [show (64 * d + t) / 64 = d by omega, show (64 * d + t) % 64 = t by omega]; exact h.1
  · intro j hj
    unfold bit at hj
    by_cases e : j / 64 < d
    · rw [h1 _ e] at hj; simp at hj
    · by_cases e2 : j / 64 = d
      · rw [e2] at hj
        rcases Nat.lt_or_ge (j % 64) t with h3 | h3
        · rw [h.2 _ h3] at hj; cases hj
        · omega
      · omega
theorem hi_word {ws : List Nat} {d t : Nat} (h1 : ∀ k, d < k → k < ws.length → ws.getD k 0 = 0) (ht : t < 64) (h : High (ws.getD d 0) t) : HiB ws (64 * d + t) := by
  constructor
  · unfold bit
    rw [show (64 * d + t) / 64 = d by omega, show (64 * d + t) % 64 = t by omega]; exact h.1
  · intro j hj
    rcases Nat.lt_or_ge j (64 * ws.length) with hjl | hjl
    · unfold bit at hj
      by_cases e : d < j / 64
      · rw [h1 _ e (by omega)] at hj; simp at hj
      · by_cases e2 : j / 64 = d
        · rw [e2] at hj
          rcases Nat.lt_or_ge t (j % 64) with h3 | h3
          · rw [h.2 _ h3] at hj; cases hj
          · omega
        · omega
    · rw [bit_far ws j hjl] at hj; cases hj

/-- the lowest bit is told; the highest one -/
def LoP (w : World) (p : Nat) (a : Option Addr) (c : Nat) (ws : List Nat) (hi : Nat) (e : Ending) (w' : World) : Prop :=
  e = .returned (.tuple #[]) ∧ Only (fun k => k = p) w w' ∧ ((NoB ws ∧ Dn w' p a c ws 0 0 false) ∨ ∃ lo, LoB ws lo ∧ Dn w' p a c ws lo hi true)
def HiP (w : World) (p : Nat) (a : Option Addr) (c : Nat) (ws : List Nat) (lo : Nat) (e : Ending) (w' : World) : Prop :=
  e = .returned (.tuple #[]) ∧ Only (fun k => k = p) w w' ∧ ((NoB ws ∧ Dn w' p a c ws 0 0 false) ∨ ∃ hi, HiB ws hi ∧ Dn w' p a c ws lo hi true)
section
variable {w : World} {p c lo hi : Nat} {a : Option Addr} {ws : List Nat} {any : Bool}
set_option maxRecDepth 100000 in
set_option maxHeartbeats 1600000 in
theorem setLowest (h : Dn w p a c ws lo hi any) : Calls Try.prog 69 #[.pointer (some ⟨p, 0, none⟩)] w (LoP w p a c ws hi) := by
  obtain ⟨b, ha, hb, hbp, c0, c1, c2, c3, hf, hc, hfb⟩ := h.facts
  have hbd := h.row.bound
  have hsm := h.sm
  have H := Lib.hid h
  have HC := Lib.hid hc
  have f1 := hf 1
  have f2 := hf 2
  have f3 := hf 3
  obtain ⟨d, hd1, hd2, hd3⟩ := first_word ws ws.length
  have HD : Hid ((∀ k, k < d → ws.getD k 0 = 0) ∧ (d < ws.length → ws.getD d 0 ≠ 0)) := Lib.hid ⟨hd2, hd3⟩
  obtain ⟨n, HN⟩ : ∃ n, Hid (ws.length = n) := ⟨_, Lib.hid rfl⟩
  rw [HN.out] at c0 hbd hsm hd1
  clear h hc hf hfb hd2 hd3
  subst ha
  go_enter Try.func69, Try.ntmps69
  go_wp2_with fail
  go_loop [2] (fun i => ∃ k : Nat, k ≤ d ∧ i = .int .u64 (k : Int)) (fun i => n - (intOf i).toNat)
  case atStart => exact ⟨0, Nat.zero_le _, rfl⟩
  case round =>
    obtain ⟨k, hk, rfl⟩ := hrel
    have hn63 : IntKind.u64.wrap (n : Int) = (n : Int) := by rw [IntKind.wrap_u64]; omega
    by_cases hkd : k < d
    · have hkn : (k : Int) < (n : Int) := by omega
      have e0 := HC.out k (by rw [HN.out]; omega)
      rw [HD.out.1 k hkd] at e0
      go_wp2_with fail
      go_round
      case rel => exact ⟨k + 1, by omega, by go_num⟩
      case measure => simp [intOf]; omega
    · obtain rfl : k = d := by omega
      by_cases hdn : k < n
      · have hkn : (k : Int) < (n : Int) := by omega
        have e0 := HC.out k (by rw [HN.out]; omega)
        have hne := HD.out.2 (by rw [HN.out]; exact hdn)
        have HFR : Hid (∀ wx, Calls Try.prog 86 #[.int .u64 ((ws.getD k 0 : Nat) : Int)] wx fun e w' => ∃ t, Hid (t < 64 ∧ Low (ws.getD k 0) t) ∧ e = .returned (.int .u64 (t : Int)) ∧ w' = wx) := Lib.hid (fun wx => findRight _ (H.out.ok.at k) hne wx)
        have h1 : (((ws.getD k 0 : Nat) : Int) == 0) = false := by rw [beq_eq_false_iff_ne]; omega
        have h2 : ((ws.getD k 0 : Nat) == 0) = false := by rw [beq_eq_false_iff_ne]; exact hne
        have HNE := Lib.hid hne
        clear hne
        generalize hX : ws.getD k 0 = X at *
        have HX := Lib.hid hX
        clear hX
        go_wp2_with fail
        refine (HFR.out _).mono ?_
        rintro e w1 ⟨t, ht, rfl, rfl⟩
        have HT := Lib.hid ht.out
        have ht64 : t < 64 := ht.out.1
        have hsum : IntKind.u64.wrap ((k : Int) * 64 + (t : Int)) = ((64 * k + t : Nat) : Int) := by rw [IntKind.wrap_u64]; omega
        have hmul : IntKind.u64.wrap ((k : Int) * 64) = (k : Int) * 64 := by rw [IntKind.wrap_u64]; omega
        clear ht HFR
        go_wp2_with fail
        refine bodyPost_ret (results_none rfl _ _ _) rfl ?_
        have hO : Only (fun j => j = p) w1 ((w1.setCell ⟨p, 1, none⟩ (.int .u64 (64 * (k : Int) + (t : Int)))).setCell ⟨p, 3, none⟩ (.bool true)) := ((Only.refl (fun j => j = p) _).setCell ⟨p, 1, none⟩ _ (fun _ => rfl)).setCell ⟨p, 3, none⟩ _ (fun _ => rfl)
        refine ⟨rfl, hO, .inr ⟨64 * k + t, lo_word HD.out.1 ht64 (by rw [HX.out]; exact HT.out.2), H.out.set3 _ _ _ ?_ hO⟩⟩
        have h3 := setCell_heap (setCell_heap H.out.obj 1 (.int .u64 (64 * (k : Int) + (t : Int)))) 3 (.bool true)
        rw [show ((64 * k + t : Nat) : Int) = 64 * (k : Int) + (t : Int) by omega]
        exact h3
      · obtain rfl : k = n := by omega
        have hkn : ¬ (k : Int) < (k : Int) := by omega
        go_wp2_with fail
        go_end0
        have hO : Only (fun j => j = p) w (((w.setCell ⟨p, 3, none⟩ (.bool false)).setCell ⟨p, 1, none⟩ (.int .u64 0)).setCell ⟨p, 2, none⟩ (.int .u64 0)) := (((Only.refl (fun j => j = p) _).setCell ⟨p, 3, none⟩ _ (fun _ => rfl)).setCell ⟨p, 1, none⟩ _ (fun _ => rfl)).setCell ⟨p, 2, none⟩ _ (fun _ => rfl)
        refine ⟨rfl, hO, .inl ⟨no_words (fun j hj => HD.out.1 j (by rw [HN.out] at hj; exact hj)), H.out.set3 _ _ _ ?_ hO⟩⟩
        exact setCell_heap (setCell_heap (setCell_heap H.out.obj 3 (.bool false)) 1 (.int .u64 0)) 2 (.int .u64 0)

set_option maxRecDepth 100000 in
set_option maxHeartbeats 1600000 in
theorem setHighest (h : Dn w p a c ws lo hi any) : Calls Try.prog 68 #[.pointer (some ⟨p, 0, none⟩)] w (HiP w p a c ws lo) := by
  obtain ⟨b, ha, hb, hbp, c0, c1, c2, c3, hf, hc, hfb⟩ := h.facts
  have hbd := h.row.bound
  have hsm := h.sm
  have H := Lib.hid h
  have HC := Lib.hid hc
  have f1 := hf 1
  have f2 := hf 2
  have f3 := hf 3
  have HD := Lib.hid (last_word ws ws.length)
  obtain ⟨n, HN⟩ : ∃ n, Hid (ws.length = n) := ⟨_, Lib.hid rfl⟩
  rw [HN.out] at c0 hbd hsm
  clear h hc hf hfb
  subst ha
  go_enter Try.func68, Try.ntmps68
  go_wp2_with fail
  go_loop [2] (fun i => ∃ k : Int, -1 ≤ k ∧ k < (n : Int) ∧ i = .int .i64 k ∧ Hid (∀ j : Nat, k < (j : Int) → j < n → ws.getD j 0 = 0)) (fun i => (intOf i + 1).toNat)
  case atStart => exact ⟨_, by omega, by omega, rfl, Lib.hid (fun j h1 h2 => absurd h1 (by omega))⟩
  case round =>
    obtain ⟨k, hk, hkn, rfl, HZ⟩ := hrel
    by_cases hk0 : 0 ≤ k
    · obtain ⟨d, rfl⟩ : ∃ d : Nat, k = (d : Int) := ⟨k.toNat, by omega⟩
      have e0 := HC.out d (by rw [HN.out]; omega)
      by_cases hne : ws.getD d 0 = 0
      · rw [hne] at e0
        have HZ2 : Hid (∀ j : Nat, (d : Int) - 1 < (j : Int) → j < n → ws.getD j 0 = 0) := Lib.hid (fun j h1 h2 => by
          by_cases e : j = d
          · rw [e]; exact hne
          · exact HZ.out j (by omega) h2)
        clear hne
        go_wp2_with fail
        go_round
        case rel => exact ⟨(d : Int) - 1, by omega, by omega, rfl, HZ2⟩
        case measure => first | (simp [intOf]; done) | (simp [intOf]; omega)
      · have HFR : Hid (∀ wx, Calls Try.prog 49 #[.int .u64 ((ws.getD d 0 : Nat) : Int)] wx fun e w' => ∃ t, Hid (t < 64 ∧ High (ws.getD d 0) t) ∧ e = .returned (.int .u64 (t : Int)) ∧ w' = wx) := Lib.hid (fun wx => findLeft _ (H.out.ok.at d) hne wx)
        have h1 : (((ws.getD d 0 : Nat) : Int) == 0) = false := by rw [beq_eq_false_iff_ne]; omega
        have h2 : ((ws.getD d 0 : Nat) == 0) = false := by rw [beq_eq_false_iff_ne]; exact hne
        clear hne
        generalize hX : ws.getD d 0 = X at *
        have HX := Lib.hid hX
        clear hX
        go_wp2_with fail
        refine (HFR.out _).mono ?_
        rintro e w1 ⟨t, ht, rfl, rfl⟩
        have HT := Lib.hid ht.out
        have ht64 : t < 64 := ht.out.1
        have hsum : IntKind.u64.wrap ((d : Int) * 64 + (t : Int)) = ((64 * d + t : Nat) : Int) := by rw [IntKind.wrap_u64]; omega
        have hmul : IntKind.u64.wrap ((d : Int) * 64) = (d : Int) * 64 := by rw [IntKind.wrap_u64]; omega
        have hcv : IntKind.u64.wrap (d : Int) = (d : Int) := by rw [IntKind.wrap_u64]; omega
        clear ht HFR
        go_wp2_with fail
        refine bodyPost_ret (results_none rfl _ _ _) rfl ?_
        have hO : Only (fun j => j = p) w1 ((w1.setCell ⟨p, 2, none⟩ (.int .u64 (64 * (d : Int) + (t : Int)))).setCell ⟨p, 3, none⟩ (.bool true)) := ((Only.refl (fun j => j = p) _).setCell ⟨p, 2, none⟩ _ (fun _ => rfl)).setCell ⟨p, 3, none⟩ _ (fun _ => rfl)
        refine ⟨rfl, hO, .inr ⟨64 * d + t, hi_word (fun j h1 h2 => HZ.out j (by omega) (by rw [HN.out] at h2; exact h2)) ht64 (by rw [HX.out]; exact HT.out.2), H.out.set3 _ _ _ ?_ hO⟩⟩
        have h3 := setCell_heap (setCell_heap H.out.obj 2 (.int .u64 (64 * (d : Int) + (t : Int)))) 3 (.bool true)
        rw [show ((64 * d + t : Nat) : Int) = 64 * (d : Int) + (t : Int) by omega]
        exact h3
    · have hkn : ¬ (0 : Int) ≤ k := by omega
      obtain rfl : k = -1 := by omega
      go_wp2_with fail
      go_end0
      have hO : Only (fun j => j = p) w (((w.setCell ⟨p, 3, none⟩ (.bool false)).setCell ⟨p, 2, none⟩ (.int .u64 0)).setCell ⟨p, 1, none⟩ (.int .u64 0)) := (((Only.refl (fun j => j = p) _).setCell ⟨p, 3, none⟩ _ (fun _ => rfl)).setCell ⟨p, 2, none⟩ _ (fun _ => rfl)).setCell ⟨p, 1, none⟩ _ (fun _ => rfl)
      refine ⟨rfl, hO, .inl ⟨no_words (fun j hj => HZ.out j (by omega) (by rw [HN.out] at hj; exact hj)), H.out.set3 _ _ _ ?_ hO⟩⟩
      exact setCell_heap (setCell_heap (setCell_heap H.out.obj 3 (.bool false)) 2 (.int .u64 0)) 1 (.int .u64 0)
end
end Go.Proofs.Ytacjkbljokjdkaa.ba

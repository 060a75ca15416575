/-
  The dense bit array: GetBit, ClearBit, Reset.
-/
import Derived.Test.YtacjkbljokjdkaaBaDn2
namespace Go.Proofs.Ytacjkbljokjdkaa.ba
open Go.RowKit Go.Proofs.Ytacjkbljokjdkaa.base Go.Proofs.Ytacjkbljokjdkaa.heap Go.Proofs.Ytacjkbljokjdkaa.rows Go.Proofs.Ytacjkbljokjdkaa.bit Go.Proofs.Ytacjkbljokjdkaa.bs
set_option linter.unusedVariables false
section
variable {w : World} {p c lo hi : Nat} {a : Option Addr} {ws : List Nat} {any : Bool}
set_option maxRecDepth 100000 in
set_option maxHeartbeats 1600000 in
theorem getOut (h : Dn w p a c ws lo hi any) (k : Nat) (ho : 64 * ws.length ≤ k) : Calls Try.prog 56 #[.pointer (some ⟨p, 0, none⟩), .int .u64 (k : Int)] w fun e w' => e = .returned (.tuple #[.bool false, .iface 120 (.int .u64 (k : Int))]) ∧ w' = w := by
  have HC := Lib.hid (capD h)
  have ho' : ((64 * ws.length : Nat) : Int) ≤ (k : Int) := by omega
  generalize 64 * ws.length = n at *
  clear h ho
  go_enter Try.func56, Try.ntmps56
  go_wp2_with fail
  refine HC.out.mono ?_
  rintro e w1 ⟨rfl, rfl⟩
  go_wp2_with fail
  go_ret2
  exact ⟨rfl, rfl⟩
set_option maxRecDepth 100000 in
set_option maxHeartbeats 1600000 in
theorem clearOut (h : Dn w p a c ws lo hi any) (k : Nat) (ho : 64 * ws.length ≤ k) : Calls Try.prog 53 #[.pointer (some ⟨p, 0, none⟩), .int .u64 (k : Int)] w fun e w' => e = .returned (.iface 120 (.int .u64 (k : Int))) ∧ w' = w := by
  have HC := Lib.hid (capD h)
  have ho' : ((64 * ws.length : Nat) : Int) ≤ (k : Int) := by omega
  generalize 64 * ws.length = n at *
  clear h ho
  go_enter Try.func53, Try.ntmps53
  go_wp2_with fail
  refine HC.out.mono ?_
  rintro e w1 ⟨rfl, rfl⟩
  go_wp2_with fail
  go_ret
  exact ⟨rfl, rfl⟩
set_option maxRecDepth 100000 in
set_option maxHeartbeats 1600000 in
theorem getD_ (h : Dn w p a c ws lo hi any) (k : Nat) (hk : k < 64 * ws.length) : Calls Try.prog 56 #[.pointer (some ⟨p, 0, none⟩), .int .u64 (k : Int)] w fun e w' => e = .returned (.tuple #[.bool (bit ws k), .nilIface]) ∧ w' = w := by
  have HC := Lib.hid (capD h)
  obtain ⟨b, ha, hb, hbp, c0, c1, c2, c3, hf, hc, hfb⟩ := h.facts
  have hsm := h.sm
  have HL64 : Hid (Lt64 k) := Lib.hid (by unfold Lt64; omega)
  have HIW : Hid (∀ wx, Calls Try.prog 33 #[.int .u64 (k : Int)] wx fun e w' => e = .returned (.tuple #[.int .u64 ((k / 64 : Nat) : Int), .int .u64 ((k % 64 : Nat) : Int)]) ∧ w' = wx) := Lib.hid (fun wx => indexW k HL64.out wx)
  have hko : ¬ ((64 * ws.length : Nat) : Int) ≤ (k : Int) := by omega
  have hj : k / 64 < ws.length := by omega
  have e0 := hc (k / 64) hj
  have hp64 : k % 64 < 64 := Nat.mod_lt _ (by omega)
  have g0 := wrap_pow hp64
  have g1 := and_nat (h.ok.at (k / 64)) (lt64_pow hp64)
  have g2 : ((((ws.getD (k / 64) 0 &&& 2 ^ (k % 64) : Nat) : Int)) != 0) = bit ws k := by
    have h := and_test (h.ok.at (k / 64)) hp64
    unfold bit
    generalize ws.getD (k / 64) 0 &&& 2 ^ (k % 64) = z at *
    cases ht : (ws.getD (k / 64) 0).testBit (k % 64)
    · have := h.2 ht; subst this; rfl
    · have : ¬ z = 0 := fun e => by have := h.1 e; rw [ht] at this; cases this
      simp [bne]; exact this
  have hr' : ((k % 64 : Nat) : Int) < 64 := by omega
  clear h hc hf hfb
  generalize bit ws k = t at *
  generalize ws.getD (k / 64) 0 = x at *
  generalize k / 64 = j at *
  generalize k % 64 = r at *
  generalize 2 ^ r = y at *
  generalize x &&& y = z at *
  have HG2 := Lib.hid g2
  obtain ⟨n, HN⟩ : ∃ n, Hid (ws.length = n) := ⟨_, Lib.hid rfl⟩
  rw [HN.out] at c0 hj HC hko hsm
  have hj' : (j : Int) < (n : Int) := by omega
  have hj0 : (0 : Int) ≤ (j : Int) := by omega
  generalize 64 * n = cp at *
  subst ha
  clear c1 c2 c3
  go_enter Try.func56, Try.ntmps56
  go_wp2_with fail
  refine HC.out.mono ?_
  rintro e w1 ⟨rfl, rfl⟩
  go_wp2_with fail
  refine (HIW.out _).mono ?_
  rintro e w2 ⟨rfl, rfl⟩
  go_wp2_with fail
  go_ret2
  exact ⟨rfl, rfl⟩
/-- how an array stands when it has been emptied -/
def ResetP (w : World) (p : Nat) (a : Option Addr) (c : Nat) (n lo hi : Nat) (e : Ending) (w' : World) : Prop :=
  e = .returned (.tuple #[]) ∧ Only (Ft p a) w w' ∧ Dn w' p a c (List.replicate n 0) lo hi false
/-- the first k words are 0 -/
def zer (ws : List Nat) (k : Nat) : List Nat := List.replicate k 0 ++ ws.drop k
theorem zer_len {ws : List Nat} {k : Nat} (h : k ≤ ws.length) : (zer ws k).length = ws.length := by simp [zer]; omega
theorem zer_next {ws : List Nat} {k : Nat} (h : k < ws.length) : (zer ws k).set k 0 = zer ws (k + 1) := by
  unfold zer
  rw [List.set_append_right _ _ (by simp), List.length_replicate, Nat.sub_self]
  rw [List.drop_eq_getElem_cons h, List.set_cons_zero, List.replicate_succ', List.append_assoc]
  rfl
theorem zer_all (ws : List Nat) : zer ws ws.length = List.replicate ws.length 0 := by simp [zer]
set_option maxRecDepth 100000 in
set_option maxHeartbeats 1600000 in
theorem resetD (h : Dn w p a c ws lo hi any) : Calls Try.prog 62 #[.pointer (some ⟨p, 0, none⟩)] w (ResetP w p a c ws.length lo hi) := by
  have hsm := h.sm
  have H := Lib.hid h
  obtain ⟨n, HN⟩ : ∃ n, Hid (ws.length = n) := ⟨_, Lib.hid rfl⟩
  rw [HN.out] at hsm ⊢
  obtain ⟨b, ha, _⟩ := h.facts
  clear h
  subst ha
  go_enter Try.func62, Try.ntmps62
  go_wp2_with fail
  go_loopw [2] (fun i wr => ∃ k : Nat, k ≤ n ∧ i = .int .u64 (k : Int) ∧ Hid (Dn wr p (some ⟨b, 0, none⟩) c (zer ws k) lo hi any ∧ Only (Ft p (some ⟨b, 0, none⟩)) w wr)) (fun i _ => n - (intOf i).toNat)
  case atStart => exact ⟨0, Nat.zero_le _, rfl, Lib.hid ⟨by simpa [zer] using H.out, Only.refl _ _⟩⟩
  case round =>
    obtain ⟨k, hk, rfl, HI⟩ := hrel
    have hn63 : IntKind.u64.wrap (n : Int) = (n : Int) := by rw [IntKind.wrap_u64]; omega
    have hzl : (zer ws k).length = n := by rw [zer_len (by have := HN.out; omega)]; exact HN.out
    obtain ⟨b', hb', hb, hbp, c0, c1, c2, c3, hf, hc, hfb⟩ := HI.out.1.facts
    cases hb'
    rw [hzl] at c0
    by_cases hkn : k < n
    · have hkn' : (k : Int) < (n : Int) := by omega
      have hk0 : (0 : Int) ≤ (k : Int) := by omega
      have e0 := hc k (by omega)
      have f0 := hfb k
      have hxl := HI.out.1.ok.at k
      obtain ⟨x, hx⟩ : ∃ x, (zer ws k).getD k 0 = x := ⟨_, rfl⟩
      rw [hx] at e0 hxl
      have ha0 : bits .and .u64 (x : Int) 0 = 0 := by
        have := and_nat hxl (show Lt64 0 by unfold Lt64; omega)
        simpa using this
      have HNX : Hid (Dn (wr.setCell ⟨b, k, none⟩ (.int .u64 0)) p (some ⟨b, 0, none⟩) c (zer ws (k + 1)) lo hi any ∧ Only (Ft p (some ⟨b, 0, none⟩)) w (wr.setCell ⟨b, k, none⟩ (.int .u64 0))) := Lib.hid (by
        have hD := HI.out.1
        have hO := HI.out.2
        have hob := hD.obj
        obtain ⟨g1, g2⟩ := hD.put (w' := wr) (lo' := lo) (hi' := hi) (any' := any) rfl k 0 (by omega) (by unfold Lt64; omega) (Only.refl _ _) hob
        rw [zer_next (by have := HN.out; omega)] at g1
        exact ⟨g1, hO.trans g2 (fun _ _ h => h)⟩)
      clear hc hf hfb hx hxl hzl c1 c2 c3
      go_wp2_with fail
      go_roundw
      case rel => exact ⟨k + 1, by omega, by go_num, HNX⟩
      case measure => simp [intOf]; omega
    · obtain rfl : k = n := by omega
      have hkn' : ¬ (k : Int) < (k : Int) := by omega
      have f3 := hf 3
      have HFIN : Hid (ResetP w p (some ⟨b, 0, none⟩) c k lo hi (.returned (.tuple #[])) (wr.setCell ⟨p, 3, none⟩ (.bool false))) := Lib.hid (by
        have hO : Only (fun j => j = p) wr (wr.setCell ⟨p, 3, none⟩ (.bool false)) := (Only.refl _ _).setCell _ _ (fun _ => rfl)
        have hD := HI.out.1.set3 lo hi false (setCell_heap HI.out.1.obj 3 (.bool false)) hO
        have e := zer_all ws
        rw [HN.out] at e
        rw [e] at hD
        exact ⟨rfl, HI.out.2.trans (hO.mono (fun _ _ e => .inl e)) (fun _ _ h => h), hD⟩)
      clear hc hf hfb hzl c1 c2
      go_wp2_with fail
      first | go_end0 | skip
      exact HFIN.out
/-- the ends that are kept (as Ends of XBaArr) -/
def Endz (ws : List Nat) (lo hi : Nat) (any : Bool) : Prop := lo ≤ hi ∧ hi ≤ 64 * ws.length ∧ (any = false → NoB ws) ∧ (any = true → LoB ws lo ∧ HiB ws hi)
/-- a bit is cleared: the array has the others -/
def ClearP (w : World) (p : Nat) (a : Option Addr) (c : Nat) (ws : List Nat) (k : Nat) (e : Ending) (w' : World) : Prop :=
  e = .returned .nilIface ∧ Only (Ft p a) w w' ∧ ∃ ws2 lo' hi' any', Dn w' p a c ws2 lo' hi' any' ∧ ws2.length = ws.length ∧ (∀ i, bit ws2 i = true ↔ bit ws i = true ∧ i ≠ k) ∧ Endz ws2 lo' hi' any'
theorem clear_bit {ws : List Nat} {k : Nat} (hok : Ok ws) (hk : k < 64 * ws.length) (i : Nat) : bit (ws.set (k / 64) (nandW (ws.getD (k / 64) 0) (2 ^ (k % 64)))) i = true ↔ bit ws i = true ∧ i ≠ k := by
  unfold bit
  rw [List.getD_eq_getElem?_getD, List.getElem?_set]
  by_cases e : k / 64 = i / 64
  · rw [if_pos e, if_pos (by omega)]
    show (nandW _ _).testBit _ = true ↔ _
    rw [nandW_bit (hok.at _) (lt64_pow (Nat.mod_lt _ (by omega))), e, tb_pow]
    by_cases e2 : k % 64 = i % 64
    · have : i = k := by omega
      simp [e2, this]
    · have : ¬ i = k := fun h => e2 (by rw [h])
      simp [e2, this]
  · rw [if_neg e, ← List.getD_eq_getElem?_getD]
    have : ¬ i = k := fun h => e (by rw [h])
    simp [this]
set_option maxRecDepth 100000 in
set_option maxHeartbeats 1600000 in
theorem clearD (h : Dn w p a c ws lo hi any) (he : Endz ws lo hi any) (k : Nat) (hk : k < 64 * ws.length) : Calls Try.prog 53 #[.pointer (some ⟨p, 0, none⟩), .int .u64 (k : Int)] w (ClearP w p a c ws k) := by
  have HC := Lib.hid (capD h)
  obtain ⟨b, ha, hb, hbp, c0, c1, c2, c3, hf, hc, hfb⟩ := h.facts
  have hsm := h.sm
  have HL64 : Hid (Lt64 k) := Lib.hid (by unfold Lt64; omega)
  have HIW : Hid (∀ wx, Calls Try.prog 33 #[.int .u64 (k : Int)] wx fun e w' => e = .returned (.tuple #[.int .u64 ((k / 64 : Nat) : Int), .int .u64 ((k % 64 : Nat) : Int)]) ∧ w' = wx) := Lib.hid (fun wx => indexW k HL64.out wx)
  have hko : ¬ ((64 * ws.length : Nat) : Int) ≤ (k : Int) := by omega
  have hj : k / 64 < ws.length := by omega
  have e0 := hc (k / 64) hj
  have f0 := hfb (k / 64)
  have hp64 : k % 64 < 64 := Nat.mod_lt _ (by omega)
  have g0 := wrap_pow hp64
  have g1 : bits .andNot .u64 ((ws.getD (k / 64) 0 : Nat) : Int) ((2 ^ (k % 64) : Nat) : Int) = ((nandW (ws.getD (k / 64) 0) (2 ^ (k % 64)) : Nat) : Int) := u64_andNot_nat _ _ (h.ok.at _) (lt64_pow hp64)
  have hr' : ((k % 64 : Nat) : Int) < 64 := by omega
  have HB : Hid (∀ i, bit (ws.set (k / 64) (nandW (ws.getD (k / 64) 0) (2 ^ (k % 64)))) i = true ↔ bit ws i = true ∧ i ≠ k) := Lib.hid (clear_bit h.ok hk)
  have HD : Hid (Dn (w.setCell ⟨b, k / 64, none⟩ (.int .u64 (nandW (ws.getD (k / 64) 0) (2 ^ (k % 64)) : Nat))) p a c (ws.set (k / 64) (nandW (ws.getD (k / 64) 0) (2 ^ (k % 64)))) lo hi any ∧ Only (Ft p a) w (w.setCell ⟨b, k / 64, none⟩ (.int .u64 (nandW (ws.getD (k / 64) 0) (2 ^ (k % 64)) : Nat)))) := Lib.hid (h.put ha (k / 64) _ hj (nandW_lt (h.ok.at _)) (Only.refl _ _) h.obj)
  have HE := Lib.hid he
  have H := Lib.hid h
  have hlen : (ws.set (k / 64) (nandW (ws.getD (k / 64) 0) (2 ^ (k % 64)))).length = ws.length := List.length_set
  have HLEN := Lib.hid hlen
  clear h hc hf hfb he hlen
  generalize nandW (ws.getD (k / 64) 0) (2 ^ (k % 64)) = z at *
  generalize ws.getD (k / 64) 0 = x at *
  generalize k / 64 = j at *
  generalize k % 64 = r at *
  generalize 2 ^ r = y at *
  obtain ⟨ws2, HW2⟩ : ∃ ws2, Hid (ws.set j z = ws2) := ⟨_, Lib.hid rfl⟩
  rw [HW2.out] at HB HD HLEN
  obtain ⟨n, HN⟩ : ∃ n, Hid (ws.length = n) := ⟨_, Lib.hid rfl⟩
  rw [HN.out] at c0 hj HC hko hsm
  have hj' : (j : Int) < (n : Int) := by omega
  have hj0 : (0 : Int) ≤ (j : Int) := by omega
  have HNO : Hid (∀ i, n * 64 ≤ i → ¬ bit ws2 i = true) := Lib.hid (fun i hi h1 => by
    rw [bit_far ws2 i (by have := HLEN.out; have := HN.out; omega)] at h1; cases h1)
  generalize 64 * n = cp at *
  subst ha
  unfold ClearP
  cases any with
  | false =>
    go_enter Try.func53, Try.ntmps53
    go_wp2_with fail
    refine HC.out.mono ?_
    rintro e w1 ⟨rfl, rfl⟩
    go_wp2_with fail
    go_ret
    refine ⟨rfl, Only.refl _ _, ws, lo, hi, false, H.out, rfl, fun i => ?_, HE.out⟩
    have := HE.out.2.2.1 rfl i
    rw [this]; simp
  | true =>
    go_enter Try.func53, Try.ntmps53
    go_wp2_with fail
    refine HC.out.mono ?_
    rintro e w1 ⟨rfl, rfl⟩
    go_wp2_with fail
    refine (HIW.out _).mono ?_
    rintro e w2 ⟨rfl, rfl⟩
    obtain ⟨W2, hW2⟩ : ∃ W2, W2 = w2.setCell ⟨b, j, none⟩ (.int .u64 (z : Int)) := ⟨_, rfl⟩
    rw [← hW2] at HD
    obtain ⟨b', hb', _, hbp', d0, d1, d2, d3, df, _, _⟩ := HD.out.1.facts
    cases hb'
    have HW := Lib.hid hW2
    have HHI : Hid (∀ wx, wx = W2 → Calls Try.prog 68 #[.pointer (some ⟨p, 0, none⟩)] wx (HiP W2 p (some ⟨b, 0, none⟩) c ws2 lo)) := Lib.hid (fun wx e => by subst e; exact setHighest HD.out.1)
    have HLO : Hid (∀ wx, wx = W2 → Calls Try.prog 69 #[.pointer (some ⟨p, 0, none⟩)] wx (LoP W2 p (some ⟨b, 0, none⟩) c ws2 hi)) := Lib.hid (fun wx e => by subst e; exact setLowest HD.out.1)
    have HEE : Hid (lo ≤ hi ∧ hi ≤ 64 * ws.length ∧ LoB ws lo ∧ HiB ws hi) := Lib.hid ⟨HE.out.1, HE.out.2.1, (HE.out.2.2.2 rfl).1, (HE.out.2.2.2 rfl).2⟩
    have HFIN : Hid (∀ w' lo' hi' any', Only (fun k => k = p) W2 w' → Dn w' p (some ⟨b, 0, none⟩) c ws2 lo' hi' any' → Endz ws2 lo' hi' any' → ClearP w2 p (some ⟨b, 0, none⟩) c ws k (.returned .nilIface) w') := Lib.hid (fun w' lo' hi' any' ho hd hE =>
      ⟨rfl, HD.out.2.trans ho (fun k _ e => .inl e), ws2, lo', hi', any', hd, HLEN.out, HB.out, hE⟩)
    have HNB : Hid (NoB ws2 → Endz ws2 0 0 false) := Lib.hid (fun h => ⟨Nat.le_refl _, Nat.zero_le _, fun _ => h, fun h => by cases h⟩)
    have HLB : Hid (lo ≠ k → LoB ws2 lo) := Lib.hid (fun h => ⟨(HB.out _).2 ⟨HEE.out.2.2.1.1, h⟩, fun i hi => HEE.out.2.2.1.2 i ((HB.out i).1 hi).1⟩)
    have HHB : Hid (hi ≠ k → HiB ws2 hi) := Lib.hid (fun h => ⟨(HB.out _).2 ⟨HEE.out.2.2.2.1, h⟩, fun i hi => HEE.out.2.2.2.2 i ((HB.out i).1 hi).1⟩)
    by_cases h1 : k = hi
    · have h1' : (k : Int) = (hi : Int) := by omega
      subst h1
      go_wp2_with fail
      rw [← HW.out]
      go_wp2_with (go_at_call 68; refine (HHI.out _ rfl).mono ?_)
      rintro e w3 ⟨rfl, ho, hp⟩
      have HR : Hid (ClearP w2 p (some ⟨b, 0, none⟩) c ws k (.returned .nilIface) w3) := Lib.hid (by
        rcases hp with ⟨hn, hd⟩ | ⟨hi2, hh, hd⟩
        · exact HFIN.out w3 0 0 false ho hd (HNB.out hn)
        · refine HFIN.out w3 lo hi2 true ho hd ?_
          have h2 := (HB.out hi2).1 hh.1
          have h3 := HEE.out.2.2.1.2 hi2 h2.1
          have h4 := HEE.out.2.2.2.2 hi2 h2.1
          have h5 : hi2 ≠ k := h2.2
          have h6 := HLEN.out
          have h7 := HEE.out.2.1
          exact ⟨h3, by omega, fun e => (by cases e), fun _ => ⟨HLB.out (by omega), hh⟩⟩)
      clear ho hp HHI HLO
      go_wp2_with fail
      go_ret
      exact HR.out
    · have h1' : ((k : Int) == (hi : Int)) = false := by rw [beq_eq_false_iff_ne]; omega
      have h1b : ¬ (k : Int) = (hi : Int) := by omega
      by_cases h2 : k = lo
      · subst h2
        go_wp2_with fail
        rw [← HW.out]
        go_wp2_with (go_at_call 69; refine (HLO.out _ rfl).mono ?_)
        rintro e w3 ⟨rfl, ho, hp⟩
        have HR : Hid (ClearP w2 p (some ⟨b, 0, none⟩) c ws k (.returned .nilIface) w3) := Lib.hid (by
          rcases hp with ⟨hn, hd⟩ | ⟨lo2, hh, hd⟩
          · exact HFIN.out w3 0 0 false ho hd (HNB.out hn)
          · refine HFIN.out w3 lo2 hi true ho hd ?_
            have h2 := (HB.out lo2).1 hh.1
            have h4 := HEE.out.2.2.2.2 lo2 h2.1
            have h6 := HLEN.out
            have h7 := HEE.out.2.1
            exact ⟨h4, by omega, fun e => (by cases e), fun _ => ⟨hh, HHB.out (by omega)⟩⟩)
        clear ho hp HHI HLO
        go_wp2_with fail
        go_ret
        exact HR.out
      · have h2' : ((k : Int) == (lo : Int)) = false := by rw [beq_eq_false_iff_ne]; omega
        have h2b : ¬ (k : Int) = (lo : Int) := by omega
        have HR : Hid (ClearP w2 p (some ⟨b, 0, none⟩) c ws k (.returned .nilIface) W2) := Lib.hid (by
          have h6 := HLEN.out
          have h7 := HEE.out.2.1
          exact HFIN.out W2 lo hi true (Only.refl _ _) HD.out.1 ⟨HEE.out.1, by omega, fun e => (by cases e), fun _ => ⟨HLB.out (by omega), HHB.out (by omega)⟩⟩)
        clear HHI HLO h1 h2
        go_wp2_with fail
        rw [← HW.out]
        go_wp2_with fail
        go_ret
        exact HR.out
end
end Go.Proofs.Ytacjkbljokjdkaa.ba

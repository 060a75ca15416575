/-
  Capacity of a sparse array; Intersects of a dense array and a sparse one.
-/
import Derived.Test.YtacjkbljokjdkaaBaSpAsk
import Derived.Test.YtacjkbljokjdkaaBaNandM
import Derived.Test.YtacjkbljokjdkaaBaAskT
namespace Go.Proofs.Ytacjkbljokjdkaa.ba
open Go.RowKit Go.Proofs.Ytacjkbljokjdkaa.base Go.Proofs.Ytacjkbljokjdkaa.heap Go.Proofs.Ytacjkbljokjdkaa.rows Go.Proofs.Ytacjkbljokjdkaa.bit Go.Proofs.Ytacjkbljokjdkaa.bs
set_option linter.unusedVariables false
/-- how many bits the words of a sparse array have -/
def capP (P : List (Nat × Nat)) : Nat := match P.getLast? with | some x => 64 * (x.1 + 1) | none => 0
theorem capP_last {P : List (Nat × Nat)} {m : Nat} {x : Nat × Nat} (hl : P.length = m + 1) (hx : P[m]? = some x) : capP P = 64 * (x.1 + 1) := by
  unfold capP
  rw [List.getLast?_eq_getElem?, hl, Nat.add_sub_cancel, hx]
theorem capP_nil {P : List (Nat × Nat)} (hl : P.length = 0) : capP P = 0 := by
  have := List.eq_nil_of_length_eq_zero hl
  subst this; rfl
section
variable {w : World} {p cb ci : Nat} {ab ai : Option Addr} {P : List (Nat × Nat)}
set_option maxRecDepth 100000 in
set_option maxHeartbeats 1600000 in
theorem capS (h : Sp w p ab cb ai ci P) : Calls Try.prog 93 #[.pointer (some ⟨p, 0, none⟩)] w (FV w (.int .u64 ((capP P : Nat) : Int))) := by
  have c1 := h.c1
  have hbd := h.idx.bound
  have hsm := h.sm
  by_cases hz : P.length = 0
  · rw [capP_nil hz]
    rw [hz] at c1
    clear h
    go_enter Try.func93, Try.ntmps93
    go_wp2_with fail
    go_ret
    exact ⟨rfl, Only.refl _ _⟩
  · obtain ⟨m, hm⟩ : ∃ m, P.length = m + 1 := ⟨P.length - 1, by omega⟩
    obtain ⟨x, hx⟩ : ∃ x, P[m]? = some x := ⟨P[m]'(by omega), List.getElem?_eq_getElem _⟩
    obtain ⟨b, i, hab, hai, hc⟩ := h.at (by omega)
    have e1 := (hc m x hx).2
    have hok := (h.ok x (List.mem_of_getElem? hx)).2.2
    rw [capP_last hm hx]
    obtain ⟨n, hn⟩ : ∃ n, P.length = n := ⟨_, rfl⟩
    rw [hn] at c1 hm hbd hsm hz
    have k1 : IntKind.i64.wrap ((n : Int) - 1) = (m : Int) := by rw [IntWalk.i64_in _ (by omega)]; omega
    have k2 : (m : Int) < (n : Int) := by omega
    have k3 : (0 : Int) ≤ (m : Int) := by omega
    have k4 : ((n : Int) == 0) = false := by rw [beq_eq_false_iff_ne]; omega
    generalize x.1 = x1 at *
    have k5 : IntKind.u64.wrap ((x1 : Int) + 1) = (x1 : Int) + 1 := by rw [IntKind.wrap_u64]; omega
    have k6 : IntKind.u64.wrap (((x1 : Int) + 1) * 64) = ((64 * (x1 + 1) : Nat) : Int) := by rw [IntKind.wrap_u64]; omega
    generalize 64 * (x1 + 1) = v at *
    subst hai
    clear h hx hab hc hn hm hok
    go_enter Try.func93, Try.ntmps93
    go_wp2_with fail
    go_quiet (fail)
    go_wp2_with fail
    go_ret
    exact ⟨rfl, (Only.refl _ _).drewN _⟩
end
/-- the words of the second one are in those of the first one -/
def InW (ws : List Nat) (x : Nat × Nat) : Prop := ws.getD x.1 0 &&& x.2 = x.2
instance (ws : List Nat) (x : Nat × Nat) : Decidable (InW ws x) := by unfold InW; infer_instance
theorem within_iff {ws l1 l2 : List Nat} {Q : List (Nat × Nat)} (r1 : Rep (wf ws) l1) (hQ : Good Q) (r2 : Rep (wd Q) l2) : (∀ x ∈ Q, InW ws x) ↔ ∀ k ∈ l2, k ∈ l1 := by
  constructor
  · intro h k hk
    have hb := (r2.2 k).1 hk
    have hn : wd Q (k / 64) ≠ 0 := fun e => by rw [e] at hb; simp at hb
    have h1 := h _ (wd_some hn)
    rw [r1.2]
    show (ws.getD (k / 64) 0).testBit (k % 64) = true
    have h2 : (ws.getD (k / 64) 0 &&& wd Q (k / 64)).testBit (k % 64) = true := by rw [show ws.getD (k / 64) 0 &&& wd Q (k / 64) = wd Q (k / 64) from h1]; exact hb
    rw [Nat.testBit_and] at h2
    exact (Bool.and_eq_true _ _ ▸ h2 : _ ∧ _).1
  · intro h x hx
    unfold InW
    apply Nat.eq_of_testBit_eq
    intro i
    rw [Nat.testBit_and]
    cases hb : x.2.testBit i with
    | false => simp
    | true =>
      have hi : i < 64 := by
        rcases Nat.lt_or_ge i 64 with h2 | h2
        · exact h2
        · have hlt := (hQ.2 x hx).1
          rw [lt64_iff] at hlt
          have : x.2 < 2 ^ i := Nat.lt_of_lt_of_le hlt (Nat.pow_le_pow_right (by omega) h2)
          rw [Nat.testBit_lt_two_pow this] at hb; cases hb
      have hk : 64 * x.1 + i ∈ l2 := by
        rw [r2.2, show (64 * x.1 + i) / 64 = x.1 by omega, show (64 * x.1 + i) % 64 = i by omega, wd_mem hQ.1 (j := x.1) (b := x.2) hx]
        exact hb
      have := (r1.2 _).1 (h _ hk)
      rw [show (64 * x.1 + i) / 64 = x.1 by omega, show (64 * x.1 + i) % 64 = i by omega] at this
      have h3 : (ws.getD x.1 0).testBit i = true := this
      rw [h3]; rfl
section
variable {w : World} {p1 c1 lo hi p2 cb2 ci2 : Nat} {a1 ab2 ai2 : Option Addr} {ws l1 l2 : List Nat} {any : Bool} {Q : List (Nat × Nat)}
set_option maxRecDepth 100000 in
set_option maxHeartbeats 1600000 in
theorem inS (h1 : Dn w p1 a1 c1 ws lo hi any) (h2 : Sp w p2 ab2 cb2 ai2 ci2 Q) (hroom : ∀ x ∈ Q, x.1 < ws.length) :
    Calls Try.prog 73 #[.pointer (some ⟨p1, 0, none⟩), .pointer (some ⟨p2, 0, none⟩)] w (FV w (.bool (decide (∀ x ∈ Q, InW ws x)))) := by
  have H1 := Lib.hid h1
  have H2 := Lib.hid h2
  have HRM := Lib.hid hroom
  have d1 := h2.c1
  have b2 := h2.idx.bound
  have b4 := h2.blk.bound
  obtain ⟨n, HN⟩ : ∃ n, Hid (Q.length = n) := ⟨_, Lib.hid rfl⟩
  rw [HN.out] at d1 b2 b4
  obtain ⟨r, HR⟩ : ∃ r, Hid (decide (∀ x ∈ Q, InW ws x) = r) := ⟨_, Lib.hid rfl⟩
  rw [HR.out]
  clear h1 h2 hroom
  go_enter Try.func73, Try.ntmps73
  go_wp2_with fail
  go_loopw [12] (fun i wr => ∃ k : Nat, k ≤ n ∧ i = .int .i64 (k : Int) ∧ Hid (Same w wr ∧ ∀ x ∈ Q.take k, InW ws x)) (fun i _ => n - (intOf i).toNat)
  case atStart => exact ⟨0, Nat.zero_le _, rfl, Lib.hid ⟨Only.refl _ _, by simp⟩⟩
  case round =>
    obtain ⟨k, hk, rfl, HO⟩ := hrel
    by_cases hkn : k < n
    · have hkn' : (k : Int) < (n : Int) := by omega
      have hk0 : (0 : Int) ≤ (k : Int) := by omega
      have hsp := H2.out.still HO.out.1
      have hdn := H1.out.still HO.out.1
      obtain ⟨x, hx⟩ : ∃ x, Q[k]? = some x := ⟨Q[k]'(by have := HN.out; omega), List.getElem?_eq_getElem _⟩
      obtain ⟨bb, ii, q1, q2, hc⟩ := hsp.at (by have := HN.out; omega)
      have f2 := (hc k x hx).1
      have f1 := (hc k x hx).2
      have g0 := hsp.c0
      rw [HN.out] at g0
      obtain ⟨b3, ha3, _, _, e0, _, _, _, _, hc3, _⟩ := hdn.facts
      obtain ⟨nw, HNW⟩ : ∃ nw, Hid (ws.length = nw) := ⟨_, Lib.hid rfl⟩
      have hxr := HRM.out x (List.mem_of_getElem? hx)
      have t1 := hc3 x.1 hxr
      have hws := hdn.sm
      rw [HNW.out] at e0 hxr hws
      have hxl : (x.1 : Int) < (nw : Int) := by omega
      have hx0 : (0 : Int) ≤ (x.1 : Int) := by omega
      have HX := Lib.hid hx
      have HTS : Hid (∀ b : Bool, decide (InW ws x) = b → ∀ n, Calls Try.prog 88 #[.int .u64 ((ws.getD x.1 0 : Nat) : Int), .int .u64 (x.2 : Int)] (wr.drewN n) fun e w' => e = .returned (.bool b) ∧ w' = wr.drewN n) := Lib.hid (fun b hb n => by
        have := intersectsW (ws.getD x.1 0) x.2 (hdn.ok.at _) (H2.out.ok x (List.mem_of_getElem? hx)).1 (wr.drewN n)
        have e : decide (ws.getD x.1 0 &&& x.2 = x.2) = b := hb
        rw [e] at this
        exact this)
      by_cases hin : InW ws x
      · have HT := Lib.hid (HTS.out true (by simp [hin]))
        have HO2 : Hid (Same w wr ∧ ∀ y ∈ Q.take (k + 1), InW ws y) := Lib.hid ⟨HO.out.1, fun y hy => by
          rw [take_snoc Q k x HX.out] at hy
          rcases List.mem_append.1 hy with h | h
          · exact HO.out.2 y h
          · have : y = x := by simpa using h
            rw [this]; exact hin⟩
        generalize ws.getD x.1 0 = y1 at *
        generalize x.1 = x1 at *
        generalize x.2 = x2 at *
        subst q1
        subst q2
        subst ha3
        clear hsp hdn hc hc3 hx hxr hin HTS
        go_wp2_with fail
        go_quiet ((go_at_call 88; exact Calls.quiet_of_same (HT.out _)))
        go_wp2_with fail
        go_roundw
        case rel => exact ⟨k + 1, by omega, by go_num, Lib.hid ⟨HO2.out.1.drewN _, HO2.out.2⟩⟩
        case measure => simp [intOf]; omega
      · have HT := Lib.hid (HTS.out false (by simp [hin]))
        have HF : Hid (r = false) := Lib.hid (by rw [← HR.out, decide_eq_false_iff_not]; exact fun h => hin (h x (List.mem_of_getElem? hx)))
        generalize ws.getD x.1 0 = y1 at *
        generalize x.1 = x1 at *
        generalize x.2 = x2 at *
        subst q1
        subst q2
        subst ha3
        clear hsp hdn hc hc3 hx hxr hin HTS
        go_wp2_with fail
        go_quiet ((go_at_call 88; exact Calls.quiet_of_same (HT.out _)))
        go_wp2_with fail
        go_ret
        exact ⟨by rw [HF.out]; rfl, HO.out.1.drewN _⟩
    · have hkn' : ¬ (k : Int) < (n : Int) := by omega
      obtain rfl : k = n := by omega
      have HF : Hid (r = true) := Lib.hid (by
        rw [← HR.out, decide_eq_true_iff]
        have := HO.out.2
        rw [List.take_of_length_le (by have := HN.out; omega)] at this
        exact this)
      go_wp2_with fail
      go_ret
      exact ⟨by rw [HF.out]; rfl, HO.out.1⟩
end
end Go.Proofs.Ytacjkbljokjdkaa.ba

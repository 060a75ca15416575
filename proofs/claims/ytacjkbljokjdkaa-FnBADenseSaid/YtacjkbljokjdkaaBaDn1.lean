/-
  The dense bit array: Capacity, IsEmpty, GetBit, SetBit, Count, ToNums, Reset, ClearBit.
-/
import Derived.Test.YtacjkbljokjdkaaBaDense
import Derived.StillTailTactics
import Derived.Deep.CutRange
import Derived.Deep.DeepCutAuto
namespace Go.Proofs.Ytacjkbljokjdkaa.ba
open Go.RowKit Go.Proofs.Ytacjkbljokjdkaa.base Go.Proofs.Ytacjkbljokjdkaa.heap Go.Proofs.Ytacjkbljokjdkaa.rows Go.Proofs.Ytacjkbljokjdkaa.bit Go.Proofs.Ytacjkbljokjdkaa.bs
set_option linter.unusedVariables false
section
variable {w : World} {p c lo hi : Nat} {a : Option Addr} {ws : List Nat} {any : Bool}
set_option maxRecDepth 100000 in
theorem capD (h : Dn w p a c ws lo hi any) : Calls Try.prog 52 #[.pointer (some ⟨p, 0, none⟩)] w fun e w' => e = .returned (.int .u64 ((64 * ws.length : Nat) : Int)) ∧ w' = w := by
  obtain ⟨b, ha, hb, hbp, c0, c1, c2, c3, hf, hc, hfb⟩ := h.facts
  have hsm := h.sm
  clear h hc hf hfb
  generalize ws.length = n at *
  have h1 : IntKind.u64.wrap (n : Int) = (n : Int) := by rw [IntKind.wrap_u64]; omega
  have h2 : IntKind.u64.wrap ((n : Int) * 64) = (n : Int) * 64 := by rw [IntKind.wrap_u64]; omega
  have h3 : ((64 * n : Nat) : Int) = (n : Int) * 64 := by omega
  rw [h3]
  go_enter Try.func52, Try.ntmps52
  go_wp2
  go_ret
  first | exact ⟨rfl, rfl⟩ | exact ⟨ret_int (by omega), rfl⟩
set_option maxRecDepth 100000 in
theorem emptyD (h : Dn w p a c ws lo hi any) : Calls Try.prog 59 #[.pointer (some ⟨p, 0, none⟩)] w fun e w' => e = .returned (.bool (!any)) ∧ w' = w := by
  obtain ⟨b, ha, hb, hbp, c0, c1, c2, c3, hf, hc, hfb⟩ := h.facts
  clear h hc hf hfb
  go_enter Try.func59, Try.ntmps59
  go_wp2
  go_ret
  exact ⟨rfl, rfl⟩

set_option maxRecDepth 100000 in
set_option maxHeartbeats 1600000 in
theorem setOut (h : Dn w p a c ws lo hi any) (k : Nat) (hk : Lt64 k) (ho : 64 * ws.length ≤ k) : Calls Try.prog 63 #[.pointer (some ⟨p, 0, none⟩), .int .u64 (k : Int)] w fun e w' => e = .returned (.iface 120 (.int .u64 (k : Int))) ∧ w' = w := by
  have HC := Lib.hid (capD h)
  have ho' : ((64 * ws.length : Nat) : Int) ≤ (k : Int) := by omega
  generalize 64 * ws.length = n at *
  clear h ho hk
  go_enter Try.func63, Try.ntmps63
  go_wp2_with fail
  refine HC.out.mono ?_
  rintro e w1 ⟨rfl, rfl⟩
  go_wp2_with fail
  go_ret
  exact ⟨rfl, rfl⟩

def SetP (w : World) (p : Nat) (a : Option Addr) (c : Nat) (ws : List Nat) (lo hi : Nat) (any : Bool) (k : Nat) (e : Ending) (w' : World) : Prop :=
  e = .returned .nilIface ∧ Only (Ft p a) w w' ∧ ∃ lo' hi', Dn w' p a c (ws.set (k / 64) (ws.getD (k / 64) 0 ||| 2 ^ (k % 64))) lo' hi' true ∧ (any = false → lo' = k ∧ hi' = k) ∧ (any = true → lo' = min lo k ∧ hi' = max hi k)

theorem Dn.put {w w' : World} {p c lo hi lo' hi' : Nat} {a : Option Addr} {ws : List Nat} {any any' : Bool} (h : Dn w p a c ws lo hi any) {b : Nat} (ha : a = some ⟨b, 0, none⟩) (j x : Nat) (hj : j < ws.length) (hx : Lt64 x) (ho : Only (fun k => k = p) w w') (hw : w'.heap[p]? = some (.cells #[.slice a ws.length c, .int .u64 (lo' : Int), .int .u64 (hi' : Int), .bool any'] 95 (0, 0))) :
    Dn (w'.setCell ⟨b, j, none⟩ (.int .u64 (x : Int))) p a c (ws.set j x) lo' hi' any' ∧ Only (Ft p a) w (w'.setCell ⟨b, j, none⟩ (.int .u64 (x : Int))) := by
  have h1 := h.set3 lo' hi' any' hw ho
  have hbp : b ≠ p := fun e => h.nap (by rw [ha, e]; exact rfl)
  have hO : Only (fun k => k = b) w' (w'.setCell ⟨b, j, none⟩ (.int .u64 (x : Int))) := (Only.refl _ _).setCell _ _ (fun _ => rfl)
  refine ⟨⟨?_, ?_, h.ok.set j hx, h.nn, h.nap, by rw [List.length_set]; exact h.sm⟩, (ho.mono (fun k _ e => .inl e)).trans hO (fun k _ e => .inr (by rw [ha]; exact e.symm))⟩
  · rw [List.length_set]; exact hO.obj h1.obj (fun e => hbp e.symm)
  · rw [List.length_set, ← U_set]
    exact h1.row.set ha j _ rfl (by omega)
theorem Dn.drew {w : World} {p c lo hi : Nat} {a : Option Addr} {ws : List Nat} {any : Bool} (h : Dn w p a c ws lo hi any) (n : Nat) : Dn (w.drewN n) p a c ws lo hi any := h.still ((Only.refl _ _).drewN n)

set_option maxRecDepth 100000 in
set_option maxHeartbeats 1600000 in
theorem setD (h : Dn w p a c ws lo hi any) (hlh : lo ≤ hi) (k : Nat) (hk : k < 64 * ws.length) : Calls Try.prog 63 #[.pointer (some ⟨p, 0, none⟩), .int .u64 (k : Int)] w (SetP w p a c ws lo hi any k) := by
  have HC := Lib.hid (capD h)
  obtain ⟨b, ha, hb, hbp, c0, c1, c2, c3, hf, hc, hfb⟩ := h.facts
  have hsm := h.sm
  have HL64 : Hid (Lt64 k) := Lib.hid (by unfold Lt64; omega)
  have HIW : Hid (∀ wx, Calls Try.prog 33 #[.int .u64 (k : Int)] wx fun e w' => e = .returned (.tuple #[.int .u64 ((k / 64 : Nat) : Int), .int .u64 ((k % 64 : Nat) : Int)]) ∧ w' = wx) := Lib.hid (fun wx => indexW k HL64.out wx)
  have hko : ¬ ((64 * ws.length : Nat) : Int) ≤ (k : Int) := by omega
  have hj : k / 64 < ws.length := by omega
  have e0 := hc (k / 64) hj
  have HIN : Hid (∀ wx, Calls Try.prog 79 #[.int .u64 ((ws.getD (k / 64) 0 : Nat) : Int), .int .u64 ((k % 64 : Nat) : Int)] wx fun e w' => e = .returned (.int .u64 ((ws.getD (k / 64) 0 ||| 2 ^ (k % 64) : Nat) : Int)) ∧ w' = wx) := Lib.hid (fun wx => insertW _ _ (h.ok.at _) (Nat.mod_lt _ (by omega)) wx)
  have H := Lib.hid h
  have HX : Hid (Lt64 (ws.getD (k / 64) 0 ||| 2 ^ (k % 64))) := Lib.hid (lt64_or (h.ok.at _) (lt64_pow (Nat.mod_lt _ (by omega))))
  have f1 := hf 1
  have f2 := hf 2
  have f3 := hf 3
  have fb := hfb (k / 64)
  have HA := Lib.hid ha
  clear h hc hf hfb
  unfold SetP
  generalize ws.getD (k / 64) 0 ||| 2 ^ (k % 64) = y at *
  generalize ws.getD (k / 64) 0 = x at *
  generalize k / 64 = j at *
  generalize k % 64 = r at *
  obtain ⟨n, HN⟩ : ∃ n, Hid (ws.length = n) := ⟨_, Lib.hid rfl⟩
  rw [HN.out] at c0 hj HC hko hsm
  have hj' : (j : Int) < (n : Int) := by omega
  have hj0 : (0 : Int) ≤ (j : Int) := by omega
  generalize 64 * n = cp at *
  go_enter Try.func63, Try.ntmps63
  go_wp2_with fail
  refine HC.out.mono ?_
  rintro e w1 ⟨rfl, rfl⟩
  go_upto_if 17 with fail
  go_cut [5] (fun _ wx => Hid (∃ lo' hi' : Nat, wx.heap[p]? = some (.cells #[.slice a ws.length c, .int .u64 (lo' : Int), .int .u64 (hi' : Int), .bool true] 95 (0, 0)) ∧ Only (fun j => j = p) w1 wx ∧ (any = false → lo' = k ∧ hi' = k) ∧ (any = true → lo' = min lo k ∧ hi' = max hi k)))
  case first =>
    cases any with
    | false =>
      go_wp2_with fail
      go_meet
      exact Lib.hid ⟨k, k, setCell_heap (setCell_heap (setCell_heap H.out.obj 1 (.int .u64 (k : Int))) 2 (.int .u64 (k : Int))) 3 (.bool true), (((Only.refl (fun j => j = p) _).setCell ⟨p, 1, none⟩ _ (fun _ => rfl)).setCell ⟨p, 2, none⟩ _ (fun _ => rfl)).setCell ⟨p, 3, none⟩ _ (fun _ => rfl), fun _ => ⟨rfl, rfl⟩, fun h => by cases h⟩
    | true =>
      by_cases h1 : k < lo
      · have h1' : (k : Int) < (lo : Int) := by omega
        go_wp2_with fail
        go_meet
        exact Lib.hid ⟨k, hi, setCell_heap H.out.obj 1 (.int .u64 (k : Int)), (Only.refl (fun j => j = p) _).setCell ⟨p, 1, none⟩ _ (fun _ => rfl), (fun h => by cases h), fun _ => ⟨by omega, by omega⟩⟩
      · have h1' : ¬ (k : Int) < (lo : Int) := by omega
        by_cases h2 : hi < k
        · have h2' : (hi : Int) < (k : Int) := by omega
          go_wp2_with fail
          go_meet
          exact Lib.hid ⟨lo, k, setCell_heap H.out.obj 2 (.int .u64 (k : Int)), (Only.refl (fun j => j = p) _).setCell ⟨p, 2, none⟩ _ (fun _ => rfl), (fun h => by cases h), fun _ => ⟨by omega, by omega⟩⟩
        · have h2' : ¬ (hi : Int) < (k : Int) := by omega
          go_wp2_with fail
          go_meet
          exact Lib.hid ⟨lo, hi, H.out.obj, Only.refl _ _, (fun h => by cases h), fun _ => ⟨by omega, by omega⟩⟩
  case rest =>
    obtain ⟨w2, hw2⟩ : ∃ w2, w2 = wc := ⟨_, rfl⟩
    rw [← hw2] at hcut ⊢
    clear hw2
    obtain ⟨lo', hi', ho2, hO2, hA1, hA2⟩ := hcut.out
    have HO2 : Hid (w2.heap[p]? = some (.cells #[.slice a ws.length c, .int .u64 (lo' : Int), .int .u64 (hi' : Int), .bool true] 95 (0, 0)) ∧ Only (fun j => j = p) w1 w2 ∧ (any = false → lo' = k ∧ hi' = k) ∧ (any = true → lo' = min lo k ∧ hi' = max hi k)) := Lib.hid ⟨ho2, hO2, hA1, hA2⟩
    have d0 : w2.cell? ⟨p, 0, none⟩ = some (.slice (some ⟨b, 0, none⟩) n c) := by
      have := block_cell ho2 rfl (j := 0)
      rw [HN.out, HA.out] at this; exact this
    have d1 : w2.cell? ⟨b, j, none⟩ = some (.int .u64 (x : Int)) := (hO2.cell (p := ⟨b, j, none⟩) hb hbp).trans e0
    have d2 : w2.frozen? ⟨b, j, none⟩ = false := (hO2.frozen (p := ⟨b, j, none⟩) hb hbp).trans fb
    clear ho2 hO2 hA1 hA2 hcut c0 c1 c2 c3 e0 f1 f2 f3 fb HC
    go_wp2_with fail
    refine (HIW.out _).mono ?_
    rintro e w3 ⟨rfl, rfl⟩
    go_wp2_with fail
    refine wp_region_still_tail 15 (by kernel_rfl) (by kernel_rfl) ?_
    simp only [List.take_succ_cons, List.take_zero, List.drop_succ_cons, List.drop_zero]
    repeat still_step
    still_call (HIN.out _)
    repeat still_step
    refine wpStill_nil ?_
    go_wp2_with fail
    go_ret
    obtain ⟨g1, g2⟩ := H.out.put HA.out j y (by rw [HN.out]; exact hj) HX.out HO2.out.2.1 HO2.out.1
    exact ⟨rfl, g2.drew, lo', hi', g1.still ((Only.refl _ _).drew), HO2.out.2.2.1, HO2.out.2.2.2⟩

set_option maxRecDepth 100000 in
set_option maxHeartbeats 1600000 in
theorem countD (h : Dn w p a c ws lo hi any) : Calls Try.prog 54 #[.pointer (some ⟨p, 0, none⟩)] w fun e w' => e = .returned (.int .i64 ((nums ws ws.length).length : Int)) ∧ w' = w := by
  obtain ⟨b, ha, hb, hbp, c0, c1, c2, c3, hf, hc, hfb⟩ := h.facts
  have hbd := h.row.bound
  have hsm := h.sm
  have HOK := Lib.hid h.ok
  have HC := Lib.hid hc
  obtain ⟨n, HN⟩ : ∃ n, Hid (ws.length = n) := ⟨_, Lib.hid rfl⟩
  rw [HN.out] at c0 hbd hsm ⊢
  clear h hc hf hfb
  subst ha
  go_enter Try.func54, Try.ntmps54
  go_wp2_with fail
  go_loop [3, 11] (fun t i => ∃ k z : Nat, k ≤ n ∧ z ≤ 64 * k ∧ i = .int .i64 (k : Int) ∧ t = .int .i64 (z : Int) ∧ Hid ((nums ws k).length = z)) (fun _ i => n - (intOf i).toNat)
  case atStart => exact ⟨0, 0, Nat.zero_le _, Nat.zero_le _, rfl, rfl, Lib.hid rfl⟩
  case round =>
    obtain ⟨k, z, hk, hz, rfl, rfl, HZ⟩ := hrel
    by_cases hkn : k < n
    · have hkn' : (k : Int) < (n : Int) := by omega
      have e0 := HC.out k (by rw [HN.out]; exact hkn)
      have HPC := Lib.hid (onesCount (ws.getD k 0) (HOK.out.at k) w)
      have HP : Hid ((nums ws (k + 1)).length = z + Go.Proofs.Ytacjkbljokjdkaa.pop64.cnt 64 (ws.getD k 0)) := Lib.hid (by
        rw [nums_succ, List.length_append, HZ.out, Go.Proofs.Ytacjkbljokjdkaa.pop64.cnt_testBit]
        unfold wbits
        rw [List.length_map])
      have hle : Go.Proofs.Ytacjkbljokjdkaa.pop64.cnt 64 (ws.getD k 0) ≤ 64 := Go.Proofs.Ytacjkbljokjdkaa.pop64.cnt_le _ _
      generalize Go.Proofs.Ytacjkbljokjdkaa.pop64.cnt 64 (ws.getD k 0) = y at *
      generalize ws.getD k 0 = x at *
      go_wp2_with fail
      refine HPC.out.mono ?_
      rintro e w1 ⟨rfl, rfl⟩
      go_wp2_with fail
      go_round
      case rel => exact ⟨k + 1, z + y, by omega, by omega, by go_num, by go_num, HP⟩
      case measure => simp [intOf]; omega
    · have hkn' : ¬ (k : Int) < (n : Int) := by omega
      obtain rfl : k = n := by omega
      go_wp2_with fail
      go_ret
      exact ⟨by rw [HZ.out]; rfl, rfl⟩
end
end Go.Proofs.Ytacjkbljokjdkaa.ba

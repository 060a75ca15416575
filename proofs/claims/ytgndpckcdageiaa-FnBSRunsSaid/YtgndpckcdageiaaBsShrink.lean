/-
  Bitsets: Shrink.
-/
import Derived.Test.YtgndpckcdageiaaBsNew
import Derived.Test.YtgndpckcdageiaaBsOps1
namespace Go.Proofs.Ytgndpckcdageiaa.bs
open Go.RowKit Go.Proofs.Ytgndpckcdageiaa.base Go.Proofs.Ytgndpckcdageiaa.heap Go.Proofs.Ytgndpckcdageiaa.bit
set_option linter.unusedVariables false

theorem bit_take (ws : List Nat) (k j : Nat) : bit (ws.take k) j = if j / 64 < k then bit ws j else false := by
  unfold bit
  by_cases h : j / 64 < k
  · rw [if_pos h]
    congr 1
    simp [h]
  · rw [if_neg h]
    have : (ws.take k).getD (j / 64) 0 = 0 := by
      simp [List.getElem?_take, h]
    rw [this]; simp

/-- the last word's mask -/
theorem mask_low {x r : Nat} (hx : Lt64 x) (hr : 0 < r) (hr2 : r < 64) : bits .and .u64 (x : Int) (18446744073709551615 / 2 ^ (64 - r)) = ((x % 2 ^ r : Nat) : Int) := by
  have e : (18446744073709551615 : Nat) / 2 ^ (64 - r) = 2 ^ r - 1 := by
    have h1 : (2:Nat) ^ 64 = 2 ^ (64 - r) * 2 ^ r := by rw [← Nat.pow_add]; congr 1; omega
    have h2 : ∀ y, y = (2 : Nat) ^ 64 → (18446744073709551615 : Nat) / 2 ^ (64 - r) = (y - 1) / 2 ^ (64 - r) := fun y hy => by subst hy; rfl
    have hp : 0 < 2 ^ (64 - r) := Nat.two_pow_pos _
    have hq : 0 < 2 ^ r := Nat.two_pow_pos _
    rw [h2 _ h1.symm]
    clear h1 h2
    obtain ⟨q, hq'⟩ : ∃ q, 2 ^ r = q + 1 := ⟨2 ^ r - 1, by omega⟩
    obtain ⟨s, hs⟩ : ∃ s, 2 ^ (64 - r) = s + 1 := ⟨2 ^ (64 - r) - 1, by omega⟩
    rw [hq', hs]
    have : (s + 1) * (q + 1) - 1 = s + (s + 1) * q := by rw [Nat.mul_add, Nat.mul_one]; omega
    rw [this, Nat.add_mul_div_left _ _ (by omega), Nat.div_eq_of_lt (by omega)]
    omega
  have e2 : (18446744073709551615 : Int) / 2 ^ (64 - r) = ((2 ^ r - 1 : Nat) : Int) := by
    rw [← e, Int.natCast_ediv, Int.natCast_pow]; rfl
  rw [e2, and_nat hx (by have := lt64_pow hr2; unfold Lt64 at *; omega), Nat.and_two_pow_sub_one_eq_mod]

theorem wordsIndex_low (i : Nat) (hi : i < 64) (w : World) : Calls Try.prog 39 #[.int .u64 (i : Int)] w fun e w' => e = .returned (.int .u64 (i : Int)) ∧ w' = w := by
  have h := wordsIndex i (by omega) w
  rw [Nat.mod_eq_of_lt hi] at h
  exact h

/-- the first words of a row -/
theorem Rd.first {w : World} {a : Option Addr} {n cap : Nat} {xs : List Value} (h : Rd 1 w a n cap xs) (m : Nat) (hm : m ≤ n) : Rd 1 w a m cap (xs.take m) :=
  ⟨by rw [List.length_take, h.len]; omega, by have := h.le; omega, h.max, fun u hu => h.one u (List.mem_of_mem_take hu), fun hp => by
    obtain ⟨b, off, ha, hb, hc⟩ := h.cells (by omega)
    exact ⟨b, off, ha, hb, hc.take m⟩, h.nilcap⟩

/-- shrunk -/
def O.cut (o : O) (g i k : Nat) (ws : List Nat) : O := ⟨o.p, i + 1, some ⟨g, 0, none⟩, k, k, ws⟩

theorem cut_ok {o : O} {w w2 : World} {g i k : Nat} {C : Array Value} (h : o.ok w) (hgw : g = w.heap.size) (hg : w2.heap[g]? = some (.cells C 60 (0, 0))) (hC : C.toList = U (o.ws.take k)) (hO : Only (fun _ => False) w w2) (hk : k ≤ o.m) :
    (o.cut g i k (o.ws.take k)).ok ((w2.setCell ⟨o.p, 1, none⟩ (.slice (some ⟨g, 0, none⟩) k k)).setCell ⟨o.p, 0, none⟩ (.int .u64 ((i + 1 : Nat) : Int))) ∧
    Only (fun j => j = o.p) w ((w2.setCell ⟨o.p, 1, none⟩ (.slice (some ⟨g, 0, none⟩) k k)).setCell ⟨o.p, 0, none⟩ (.int .u64 ((i + 1 : Nat) : Int))) := by
  have hp := lt_of_heap h.obj
  have hne : o.p ≠ g := by omega
  have hobj := hO.obj h.obj (fun f => f)
  have hlen : (o.ws.take k).length = k := by rw [List.length_take, h.len]; omega
  have hmax := h.own.bound
  refine ⟨⟨?_, ?_, hlen, ?_, fun e => hne e.symm, by simp [O.cut]⟩, ?_⟩
  · show ((w2.setCell ⟨o.p, 1, none⟩ (.slice (some ⟨g, 0, none⟩) k k)).setCell ⟨o.p, 0, none⟩ (.int .u64 ((i + 1 : Nat) : Int))).heap[o.p]? = _
    rw [setCell_heap (setCell_heap hobj 1 _) 0 _]
    rfl
  · have hsz : C.size = k * 1 := by rw [← Array.length_toList, hC, U_len, hlen, Nat.mul_one]
    have hW : ((w2.setCell ⟨o.p, 1, none⟩ (.slice (some ⟨g, 0, none⟩) k k)).setCell ⟨o.p, 0, none⟩ (.int .u64 ((i + 1 : Nat) : Int))).heap[g]? = some (.cells C 60 (0, 0)) := by
      rw [Below.heap_setCell _ _ _ _ (Ne.symm hne), Below.heap_setCell _ _ _ _ (Ne.symm hne)]
      exact hg
    have h2 := Own.of_block (size := 1) hW k k (Nat.le_refl _) (by unfold maxLen; omega) hsz (fun u hu => by
      have hu := List.mem_of_mem_take hu
      rw [hC] at hu
      exact U_one _ u hu)
    rw [hC, List.take_of_length_le (by rw [U_len, hlen]; omega)] at h2
    exact h2
  · intro x hx
    exact h.fits x (List.mem_of_mem_take hx)
  · have h0 : Only (fun j => j = o.p) w w2 := hO.mono (fun _ _ f => f.elim)
    have h1 : Only (fun j => j = o.p) w (w2.setCell ⟨o.p, 1, none⟩ (.slice (some ⟨g, 0, none⟩) k k)) := h0.setCell _ _ (fun _ => rfl)
    exact h1.setCell _ _ (fun _ => rfl)

set_option maxRecDepth 100000 in
set_option maxHeartbeats 1600000 in
theorem shrink_even (o : O) (i k : Nat) (w : World) (h : o.ok w) (hi : i < o.n) (hk0 : k = i / 64 + 1) (hk : k ≤ o.m) (hi2 : i ≤ 1048576) (hr : (i + 1) % 64 = 0) :
    Calls Try.prog 27 #[o.ptr, .int .u64 (i : Int)] w fun e w' => e = .returned o.ptr ∧
      (o.cut w.heap.size i k (o.ws.take k)).ok w' ∧ Only (fun j => j = o.p) w w' := by
  have H := Lib.hid h
  obtain ⟨b, ha, hp, hb, hne, c0, c1, f0, f1, hc, hf, hmc, hcap⟩ := h.facts
  have hrd := h.own.rd
  have hul := h.len
  rw [ha] at hrd
  have hrd := Rd.first hrd k hk
  have hW := fun w => wordsNeeded (i + 1) (by omega) w
  have hmk := fun w => make_words k (by omega) w
  rw [show (i + 1 + 63) / 64 = k by omega] at hW
  have hkm : (k : Int) ≤ (o.m : Int) := by omega
  have HW := Lib.hid hW
  have HRd : Hid (∀ x, Rd 1 (w.alloc x) (some ⟨b, 0, none⟩) k o.cap ((U o.ws).take k)) := Lib.hid (fun x => hrd.keep ((Only.refl (fun _ => False) w).alloc x) (fun _ _ => id))
  have HL : Hid (o.ws.length = o.m) := Lib.hid hul
  have hr' : ((i : Int) + 1) % 64 = 0 := by omega
  clear hW hc hf h hrd hk0 hul
  unfold O.ptr
  go_enter Try.func27, Try.ntmps27
  go_wp2_with fail
  refine (HW.out _).mono ?_
  rintro e w' ⟨rfl, rfl⟩
  go_wp2_with (refine wpList_copy k rfl _ _ _ _ rfl slWord rfl (heap_alloc_new' _ _ _ rfl) rfl (HRd.out _) (Nat.min_self k).symm (by rw [zs_size]; omega) ?_)
  rintro w2 hg2 hO2
  have HG2 := Lib.hid hg2
  have HO2 : Hid (Only (fun _ => False) w' w2) := Lib.hid (((Only.refl (fun _ => False) w').alloc _).trans hO2 (fun j hj e => by omega))
  have d0 : w2.cell? ⟨o.p, 0, none⟩ = some (.int .u64 (o.n : Int)) := by rw [HO2.out.cell hp (fun f => f)]; exact c0
  have d1 : w2.cell? ⟨o.p, 1, none⟩ = some (.slice (some ⟨b, 0, none⟩) o.m o.cap) := by rw [HO2.out.cell hp (fun f => f)]; exact c1
  have e0 : w2.frozen? ⟨o.p, 0, none⟩ = false := by rw [HO2.out.frozen hp (fun f => f)]; exact f0
  have e1 : w2.frozen? ⟨o.p, 1, none⟩ = false := by rw [HO2.out.frozen hp (fun f => f)]; exact f1
  clear hg2 hO2 hmk
  go_wp2_with fail
  go_ret
  have hC := cut_ok (i := i) (k := k) H.out rfl HG2.out ?_ HO2.out hk
  · exact ⟨rfl, hC⟩
  · rw [zs_list, List.drop_eq_nil_of_le (by simp [U_len]), List.append_nil, List.take_take, Nat.min_self, U_take]
set_option maxRecDepth 100000 in
set_option maxHeartbeats 1600000 in
theorem shrink_odd (o : O) (i k : Nat) (w : World) (h : o.ok w) (hi : i < o.n) (hk0 : k = i / 64 + 1) (hk : k ≤ o.m) (hi2 : i ≤ 1048576) (r : Nat) (hr : (i + 1) % 64 = r) (hr0 : 0 < r) :
    Calls Try.prog 27 #[o.ptr, .int .u64 (i : Int)] w fun e w' => e = .returned o.ptr ∧
      (o.cut w.heap.size i k ((o.ws.take k).set (k - 1) (o.ws.getD (k - 1) 0 % 2 ^ r))).ok w' ∧ Only (fun j => j = o.p) w w' := by
  have H := Lib.hid h
  obtain ⟨b, ha, hp, hb, hne, c0, c1, f0, f1, hc, hf, hmc, hcap⟩ := h.facts
  have hrd := h.own.rd
  have hul := h.len
  rw [ha] at hrd
  have hrd := Rd.first hrd k hk
  have hW := fun w => wordsNeeded (i + 1) (by omega) w
  have hmk := fun w => make_words k (by omega) w
  rw [show (i + 1 + 63) / 64 = k by omega] at hW
  have hkm : (k : Int) ≤ (o.m : Int) := by omega
  have HW := Lib.hid hW
  have HRd : Hid (∀ x, Rd 1 (w.alloc x) (some ⟨b, 0, none⟩) k o.cap ((U o.ws).take k)) := Lib.hid (fun x => hrd.keep ((Only.refl (fun _ => False) w).alloc x) (fun _ _ => id))
  have HL : Hid (o.ws.length = o.m) := Lib.hid hul
  have HR : Hid (((i : Int) + 1) % 64 = (r : Int)) := Lib.hid (by omega)
  have hr64 : r < 64 := by omega
  have hr' : ¬ ((i : Int) + 1) % 64 = 0 := by omega
  have hk1 : 1 ≤ k := by omega
  clear hW hc hf h hrd hk0 hul hr
  unfold O.ptr
  go_enter Try.func27, Try.ntmps27
  go_wp2_with fail
  refine (HW.out _).mono ?_
  rintro e w' ⟨rfl, rfl⟩
  go_wp2_with (refine wpList_copy k rfl _ _ _ _ rfl slWord rfl (heap_alloc_new' _ _ _ rfl) rfl (HRd.out _) (Nat.min_self k).symm (by rw [zs_size]; omega) ?_)
  rintro w2 hg2 hO2
  have HG2 := Lib.hid hg2
  have HO2 : Hid (Only (fun _ => False) w' w2) := Lib.hid (((Only.refl (fun _ => False) w').alloc _).trans hO2 (fun j hj e => by omega))
  have d0 : w2.cell? ⟨o.p, 0, none⟩ = some (.int .u64 (o.n : Int)) := by rw [HO2.out.cell hp (fun f => f)]; exact c0
  have d1 : w2.cell? ⟨o.p, 1, none⟩ = some (.slice (some ⟨b, 0, none⟩) o.m o.cap) := by rw [HO2.out.cell hp (fun f => f)]; exact c1
  have e0 : w2.frozen? ⟨o.p, 0, none⟩ = false := by rw [HO2.out.frozen hp (fun f => f)]; exact f0
  have e1 : w2.frozen? ⟨o.p, 1, none⟩ = false := by rw [HO2.out.frozen hp (fun f => f)]; exact f1
  clear hg2 hO2 hmk
  have HC : Hid ((o.cut w'.heap.size i k (o.ws.take k)).ok ((w2.setCell ⟨o.p, 1, none⟩ (.slice (some ⟨w'.heap.size, 0, none⟩) k k)).setCell ⟨o.p, 0, none⟩ (.int .u64 ((i + 1 : Nat) : Int))) ∧
    Only (fun j => j = o.p) w' ((w2.setCell ⟨o.p, 1, none⟩ (.slice (some ⟨w'.heap.size, 0, none⟩) k k)).setCell ⟨o.p, 0, none⟩ (.int .u64 ((i + 1 : Nat) : Int)))) := Lib.hid (cut_ok (i := i) (k := k) H.out rfl HG2.out (by
      rw [zs_list, List.drop_eq_nil_of_le (by simp [U_len]), List.append_nil, List.take_take, Nat.min_self, U_take]) HO2.out hk)
  rw [Int.natCast_add, Int.natCast_one] at HC
  go_wp2_with fail
  rw [HR.out]
  obtain ⟨hOK, hON⟩ := HC.out
  generalize (w2.setCell ⟨o.p, 1, none⟩ (.slice (some ⟨w'.heap.size, 0, none⟩) k k)).setCell ⟨o.p, 0, none⟩ (.int .u64 ((i : Int) + 1)) = W3 at *
  obtain ⟨b3, ha3, hp3, hb3, hne3, q0, q1, g0, g1, hc3, hf3, -, -⟩ := hOK.facts
  cases ha3
  obtain ⟨j, hj⟩ : ∃ j, k - 1 = j := ⟨_, rfl⟩
  have cw := hc3 j (by show j < k; omega)
  have fw := hf3 j
  have hx : Lt64 ((o.cut w'.heap.size i k (o.ws.take k)).ws.getD j 0) := hOK.fits.at j
  have HX := Lib.hid hx
  have hwj : IntKind.i64.wrap ((k : Int) - 1) = (j : Int) := by rw [IntKind.wrap_i64]; omega
  have hlt : (j : Int) < (k : Int) := by omega
  obtain ⟨s, hs⟩ : ∃ s, 64 - r = s := ⟨_, rfl⟩
  have hws : IntKind.u64.wrap (64 - (r : Int)) = (s : Int) := by rw [IntKind.wrap_u64]; omega
  have HOK := Lib.hid hOK
  have HON := Lib.hid hON
  have HMK : Hid (∀ x : Nat, Lt64 x → bits .and .u64 (x : Int) (18446744073709551615 / 2 ^ s) = ((x % 2 ^ r : Nat) : Int)) := Lib.hid (fun x hx => by rw [← hs]; exact mask_low hx hr0 hr64)
  have HJ := Lib.hid hj
  have hs64 : s < 64 := by omega
  change W3.cell? ⟨o.p, 1, none⟩ = some (.slice (some ⟨w'.heap.size, 0, none⟩) k k) at q1
  generalize hxe : (o.cut w'.heap.size i k (o.ws.take k)).ws.getD j 0 = x at *
  have HXE : Hid (x = o.ws.getD j 0) := Lib.hid (by
    rw [← hxe]
    show (o.ws.take k).getD j 0 = _
    have : j < k := by omega
    simp [this])
  have HSK : Hid (j < k) := Lib.hid (by omega)
  clear hxe hj hs hOK hON HC hx hc3 hf3 q0 d0 d1 e0 e1 c0 c1 f0 f1 g0
  refine wp_region_still_tail 13 (by kernel_rfl) (by kernel_rfl) ?_
  simp only [List.take_succ_cons, List.take_zero, List.drop_succ_cons, List.drop_zero]
  repeat still_step
  still_call (wordsIndex_low r hr64 _)
  repeat still_step
  refine wpStill_nil ?_
  go_wp2
  go_ret
  refine ⟨rfl, ?_, ?_⟩
  · rw [HMK.out x HX.out]
    rw [HJ.out, ← HXE.out]
    exact O.ok.store (o := o.cut w'.heap.size i k (o.ws.take k)) rfl HOK.out HSK.out (Nat.lt_of_le_of_lt (Nat.mod_le _ _) HX.out) rfl
  · exact Only.drewN (HON.out.setCell ⟨w'.heap.size, j, none⟩ _ (fun hh => absurd hh (Nat.lt_irrefl _))) 1


theorem take_getD (b : List Bool) (n q : Nat) : (b.take n).getD q false = if q < n then b.getD q false else false := by
  by_cases h : q < n
  · rw [if_pos h]; simp [h]
  · rw [if_neg h]; simp [List.getElem?_take, h]

theorem foot_cut {o : O} {w : World} {i k : Nat} {ws : List Nat} : ∀ q, (o.cut w.heap.size i k ws).foot q → o.foot q ∨ w.heap.size ≤ q := by
  rintro q (rfl | hq)
  · exact .inl (.inl rfl)
  · refine .inr ?_
    have : w.heap.size = q := hq
    omega

/-- Shrink: the bits up to i, and no others -/
theorem shrink (o : O) (b : List Bool) (i : Nat) (w : World) (h : o.ok w) (hr : o.rep b) (hi : i < b.length) (hi2 : i ≤ 1048576) :
    Calls Try.prog 27 #[o.ptr, .int .u64 (i : Int)] w fun e w' => e = .returned o.ptr ∧ Upd o (b.take (i + 1)) w w' := by
  have h1 := hr.len
  have h2 := hr.room
  have h3 := h.len
  have hlen : (b.take (i + 1)).length = i + 1 := by rw [List.length_take]; omega
  have hS : ∀ w', Only (fun j => j = o.p) w w' → Only o.foot w w' := fun w' ho => ho.mono (fun _ _ e => .inl e)
  by_cases hr0 : (i + 1) % 64 = 0
  · refine (shrink_even o i (i / 64 + 1) w h (by omega) rfl (by omega) hi2 hr0).mono ?_
    rintro e w' ⟨rfl, hok, ho⟩
    refine ⟨rfl, o.cut w.heap.size i (i / 64 + 1) (o.ws.take (i / 64 + 1)), rfl, hok, ⟨hlen.symm, ?_, fun q => ?_⟩, hS _ ho, foot_cut⟩
    · rw [hlen]; show i / 64 + 1 = (i + 1 + 63) / 64; omega
    · show bit (o.ws.take (i / 64 + 1)) q = _
      rw [bit_take, take_getD, hr.bits q]
      by_cases hq : q < i + 1
      · rw [if_pos hq, if_pos (by omega)]
      · rw [if_neg hq, if_neg (by omega)]
  · refine (shrink_odd o i (i / 64 + 1) w h (by omega) rfl (by omega) hi2 ((i + 1) % 64) rfl (by omega)).mono ?_
    rintro e w' ⟨rfl, hok, ho⟩
    refine ⟨rfl, o.cut w.heap.size i (i / 64 + 1) ((o.ws.take (i / 64 + 1)).set (i / 64 + 1 - 1) (o.ws.getD (i / 64 + 1 - 1) 0 % 2 ^ ((i + 1) % 64))), rfl, hok, ⟨hlen.symm, ?_, fun q => ?_⟩, hS _ ho, foot_cut⟩
    · rw [hlen]; show i / 64 + 1 = (i + 1 + 63) / 64; omega
    · show bit ((o.ws.take (i / 64 + 1)).set (i / 64 + 1 - 1) (o.ws.getD (i / 64 + 1 - 1) 0 % 2 ^ ((i + 1) % 64))) q = _
      rw [Nat.add_sub_cancel, bit_set _ _ _ _ (by rw [List.length_take]; omega), bit_take, take_getD]
      have hb := hr.bits q
      by_cases hq : q / 64 = i / 64
      · rw [if_pos hq, Nat.testBit_mod_two_pow, ← hb]
        unfold bit
        rw [hq]
        by_cases hq2 : q < i + 1
        · rw [if_pos hq2]
          have : q % 64 < (i + 1) % 64 := by omega
          simp [this]
        · rw [if_neg hq2]
          have : ¬ q % 64 < (i + 1) % 64 := by omega
          simp [this]
      · rw [if_neg hq, hb]
        by_cases hq2 : q < i + 1
        · rw [if_pos hq2, if_pos (by omega)]
        · rw [if_neg hq2, if_neg (by omega)]

theorem shrink' (o : O) (b d : List Bool) (i : Nat) (w : World) (hd : b.take (i + 1) = d) (h : o.ok w) (hr : o.rep b) (hi : i < b.length) (hi2 : i ≤ 1048576) :
    Calls Try.prog 27 #[o.ptr, .int .u64 (i : Int)] w fun e w' => e = .returned o.ptr ∧ Upd o d w w' := by
  subst hd; exact shrink o b i w h hr hi hi2

theorem RB.first {w : World} {a : Option Addr} {n cap : Nat} {b : List Bool} (h : RB w a n cap b) (m : Nat) (hm : m ≤ n) : RB w a m cap (b.take m) :=
  ⟨by rw [← B_take]; exact Rd.first h.1 m hm, by rw [List.length_take, h.2]; omega⟩
end Go.Proofs.Ytgndpckcdageiaa.bs

/-
  Bitsets: Shrink.
-/
import Derived.Test.YtpiajkabikbdnaaBsNew
import Derived.Test.YtpiajkabikbdnaaBsOps1
namespace Go.Proofs.Ytpiajkabikbdnaa.bs
open Go.RowKit Go.Proofs.Ytpiajkabikbdnaa.base Go.Proofs.Ytpiajkabikbdnaa.heap Go.Proofs.Ytpiajkabikbdnaa.bit
set_option linter.unusedVariables false

theorem bit_take (ws : List Nat) (k j : Nat) : bit (ws.take k) j = if j / 64 < k then bit ws j else false := by
  unfold bit
  by_cases h : j / 64 < k
  · rw [if_pos h]
    congr 1
    simp [List.getElem?_take, h]
  · rw [if_neg h]
    have : (ws.take k).getD (j / 64) 0 = 0 := by
      simp [List.getElem?_take, h]
    rw [this]; simp

/-- the last word's mask -/
theorem mask_low {x r : Nat} (hx : Lt64 x) (hr : 0 < r) (hr2 : r < 64) : bits .and .u64 (x : Int) (18446744073709551615 / 2 ^ (64 - r)) = ((x % 2 ^ r : Nat) : Int) := by
  have e : (18446744073709551615 : Nat) / 2 ^ (64 - r) = 2 ^ r - 1 := by
    have h1 : (2:Nat) ^ 64 = 2 ^ (64 - r) * 2 ^ r := by rw [← Nat.pow_add]; congr 1; omega
    have h2 : ∀ y, y = (2 : Nat) ^ 64 → (18446744073709551615 : Nat) / 2 ^ (64 - r) = (y - 1) / 2 ^ (64 - r) := fun y hy => by subst hy; rfl
    have hp : 0 < 2 ^ (64 - r) := Nat.two_pow_pos _
    have hq : 0 < 2 ^ r := Nat.two_pow_pos _
    rw [h2 _ h1.symm]
    clear h1 h2
    obtain ⟨q, hq'⟩ : ∃ q, 2 ^ r = q + 1 := ⟨2 ^ r - 1, by omega⟩
    obtain ⟨s, hs⟩ : ∃ s, 2 ^ (64 - r) = s + 1 := ⟨2 ^ (64 - r) - 1, by omega⟩
    rw [hq', hs]
    have : (s + 1) * (q + 1) - 1 = s + (s + 1) * q := by rw [Nat.mul_add, Nat.mul_one]; omega
    rw [this, Nat.add_mul_div_left _ _ (by omega), Nat.div_eq_of_lt (by omega)]
    omega
  have e2 : (18446744073709551615 : Int) / 2 ^ (64 - r) = ((2 ^ r - 1 : Nat) : Int) := by
    rw [← e, Int.natCast_ediv, Int.natCast_pow]; rfl
  rw [e2, and_nat hx (by have := lt64_pow hr2; unfold Lt64 at *; omega), Nat.and_two_pow_sub_one_eq_mod]

theorem wordsIndex_low (i : Nat) (hi : i < 64) (w : World) : Calls Try.prog 60 #[.int .u64 (i : Int)] w fun e w' => e = .returned (.int .u64 (i : Int)) ∧ w' = w := by
  have h := wordsIndex i (by omega) w
  rw [Nat.mod_eq_of_lt hi] at h
  exact h

/-- the first words of a row -/
theorem Rd.first {w : World} {a : Option Addr} {n cap : Nat} {xs : List Value} (h : Rd 1 w a n cap xs) (m : Nat) (hm : m ≤ n) : Rd 1 w a m cap (xs.take m) :=
  ⟨by rw [List.length_take, h.len]; omega, by have := h.le; omega, h.max, fun u hu => h.one u (List.mem_of_mem_take hu), fun hp => by
    obtain ⟨b, off, ha, hb, hc⟩ := h.cells (by omega)
    exact ⟨b, off, ha, hb, hc.take m⟩, h.nilcap⟩

/-- shrunk -/
def O.cut (o : O) (g i k : Nat) (ws : List Nat) : O := ⟨o.p, i + 1, some ⟨g, 0, none⟩, k, k, ws⟩

theorem cut_ok {o : O} {w w2 : World} {g i k : Nat} {C : Array Value} (h : o.ok w) (hgw : g = w.heap.size) (hg : w2.heap[g]? = some (.cells C 59 (0, 0))) (hC : C.toList = U (o.ws.take k)) (hO : Only (fun _ => False) w w2) (hk : k ≤ o.m) :
    (o.cut g i k (o.ws.take k)).ok ((w2.setCell ⟨o.p, 1, none⟩ (.slice (some ⟨g, 0, none⟩) k k)).setCell ⟨o.p, 0, none⟩ (.int .u64 ((i + 1 : Nat) : Int))) ∧
    Only (fun j => j = o.p) w ((w2.setCell ⟨o.p, 1, none⟩ (.slice (some ⟨g, 0, none⟩) k k)).setCell ⟨o.p, 0, none⟩ (.int .u64 ((i + 1 : Nat) : Int))) := by
  have hp := lt_of_heap h.obj
  have hne : o.p ≠ g := by omega
  have hobj := hO.obj h.obj (fun f => f)
  have hlen : (o.ws.take k).length = k := by rw [List.length_take, h.len]; omega
  have hmax := h.own.bound
  refine ⟨⟨?_, ?_, hlen, ?_, fun e => hne e.symm, by simp [O.cut]⟩, ?_⟩
  · show ((w2.setCell ⟨o.p, 1, none⟩ (.slice (some ⟨g, 0, none⟩) k k)).setCell ⟨o.p, 0, none⟩ (.int .u64 ((i + 1 : Nat) : Int))).heap[o.p]? = _
    rw [setCell_heap (setCell_heap hobj 1 _) 0 _]
    rfl
  · have hsz : C.size = k * 1 := by rw [← Array.length_toList, hC, U_len, hlen, Nat.mul_one]
    have hW : ((w2.setCell ⟨o.p, 1, none⟩ (.slice (some ⟨g, 0, none⟩) k k)).setCell ⟨o.p, 0, none⟩ (.int .u64 ((i + 1 : Nat) : Int))).heap[g]? = some (.cells C 59 (0, 0)) := by
      rw [Below.heap_setCell _ _ _ _ (Ne.symm hne), Below.heap_setCell _ _ _ _ (Ne.symm hne)]
      exact hg
    have h2 := Own.of_block (size := 1) hW k k (Nat.le_refl _) (by unfold maxLen; omega) hsz (fun u hu => by
      have hu := List.mem_of_mem_take hu
      rw [hC] at hu
      exact U_one _ u hu)
    rw [hC, List.take_of_length_le (by rw [U_len, hlen]; omega)] at h2
    exact h2
  · intro x hx
    exact h.fits x (List.mem_of_mem_take hx)
  · have h0 : Only (fun j => j = o.p) w w2 := hO.mono (fun _ _ f => f.elim)
    have h1 : Only (fun j => j = o.p) w (w2.setCell ⟨o.p, 1, none⟩ (.slice (some ⟨g, 0, none⟩) k k)) := h0.setCell _ _ (fun _ => rfl)
    exact h1.setCell _ _ (fun _ => rfl)

theorem take_getD (b : List Bool) (n q : Nat) : (b.take n).getD q false = if q < n then b.getD q false else false := by
  by_cases h : q < n
  · rw [if_pos h]; simp [List.getElem?_take, h]
  · rw [if_neg h]; simp [List.getElem?_take, h]

theorem foot_cut {o : O} {w : World} {i k : Nat} {ws : List Nat} : ∀ q, (o.cut w.heap.size i k ws).foot q → o.foot q ∨ w.heap.size ≤ q := by
  rintro q (rfl | hq)
  · exact .inl (.inl rfl)
  · refine .inr ?_
    have : w.heap.size = q := hq
    omega

theorem RB.first {w : World} {a : Option Addr} {n cap : Nat} {b : List Bool} (h : RB w a n cap b) (m : Nat) (hm : m ≤ n) : RB w a m cap (b.take m) :=
  ⟨by rw [← B_take]; exact Rd.first h.1 m hm, by rw [List.length_take, h.2]; omega⟩
end Go.Proofs.Ytpiajkabikbdnaa.bs

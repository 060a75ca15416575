/-
  BLBits of the reference, blWords of the statements.
-/
import Derived.Test.YtpiajkabikbdnaaBsFrom
import Derived.Test.YtpiajkabikbdnaaBsOps3
namespace Go.Proofs.Ytpiajkabikbdnaa.bs
open Go.RowKit Go.Proofs.Ytpiajkabikbdnaa.base Go.Proofs.Ytpiajkabikbdnaa.heap Go.Proofs.Ytpiajkabikbdnaa.bit
set_option linter.unusedVariables false

/-- the first bits of words -/
def bitsOf (l : List Nat) (n : Nat) : List Bool := (List.range n).map (bit l)
theorem bitsOf_len (l : List Nat) (n : Nat) : (bitsOf l n).length = n := by simp [bitsOf]
theorem bitsOf_next (l : List Nat) (n : Nat) : bitsOf l (n + 1) = bitsOf l n ++ [bit l n] := by simp [bitsOf, List.range_succ]
theorem bitsOf_get (l : List Nat) (n i : Nat) : (bitsOf l n).getD i false = if i < n then bit l i else false := by
  by_cases h : i < n
  · rw [if_pos h]; simp [bitsOf, h]
  · rw [if_neg h]; simp [bitsOf, h]

set_option maxRecDepth 100000 in
set_option maxHeartbeats 1600000 in
theorem blBits (M K : Nat) (a : Option Addr) (n cap : Nat) (l : List Nat) (w : World) (h : RU w a n cap l) (hl : Ok l) (hM : M ≤ 64 * n) (hn : n ≤ 16384) :
    Calls Try.prog 12 #[.agg #[.int .u64 (M : Int), .int .u64 (K : Int), .slice a n cap]] w (RetBools (bitsOf l M) w) := by
  have hbd := h.1.bound
  have HRD : Hid (∀ wx, Same w wx → RU wx a n cap l) := Lib.hid (fun wx hx => h.keep hx (fun _ _ => id))
  have HL := Lib.hid hl
  clear h hl
  go_enter Try.func12, Try.ntmps12
  go_wp2_with fail
  obtain ⟨W, hW, hS, hB, hk⟩ := newBlock w #[.int .u64 (M : Int), .int .u64 (K : Int), .slice a n cap] 26
  rw [← hW]
  have HS := Lib.hid hS
  have HB := Lib.hid hB
  have HK := Lib.hid hk
  clear hW hS hB hk
  go_loopw [3, 4] (fun s i wr => ∃ (k : Nat) (aa : Option Addr) (cc : Nat), k ≤ M ∧ s = .slice aa k cc ∧ i = .int .u64 (k : Int) ∧ Own 4 1 wr aa k cc (B (bitsOf l k)) ∧ Same W wr ∧ ∀ j, At aa j → W.heap.size ≤ j) (fun s i _ => M - (intOf i).toNat)
  case atStart => exact ⟨0, none, 0, Nat.zero_le _, rfl, rfl, Own.nil _ _ _, Only.refl _ _, fun j hj => nomatch hj⟩
  case round =>
    obtain ⟨k, aa, cc, hk, rfl, rfl, hown, hO, hat⟩ := hrel
    have hb := still hO HB.out
    have c0 : wr.cell? ⟨w.heap.size, 0, none⟩ = some (.int .u64 (M : Int)) := block_cell hb rfl
    have c2 : wr.cell? ⟨w.heap.size, 2, none⟩ = some (.slice a n cap) := block_cell hb rfl
    have HOWN := Lib.hid hown
    have HO := Lib.hid hO
    have HAT := Lib.hid hat
    have hbdo := hown.bound
    clear hown hO hat hb
    by_cases hlt : k < M
    · have hlt' : (k : Int) < (M : Int) := by omega
      have hkn : k / 64 < n := by omega
      obtain ⟨bb, off, rfl, hbb, hc⟩ := (HRD.out wr (Same.trans HS.out HO.out)).at (by omega)
      have c := hc (k / 64) hkn
      have HX := Lib.hid (HL.out.at (k / 64))
      have HT : Hid ((bits .and .u64 ((l.getD (k / 64) 0 : Nat) / 2 ^ (k % 64)) 1 == 1) = bit l k) := Lib.hid (word_bit (HL.out.at (k / 64)) (k % 64))
      have HN := Lib.hid (bitsOf_next l k)
      generalize l.getD (k / 64) 0 = x at *
      have hkn' : (k : Int) / 64 < (n : Int) := by omega
      have ht : ((k : Int) / 64).toNat = k / 64 := by omega
      have ht2 : ((k : Int) % 64).toNat = k % 64 := by omega
      have hge : (0 : Int) ≤ (k : Int) / 64 := by omega
      clear hc
      go_wp2_with (at_builtin; refine wpList_append (k + 1) (B (bitsOf l k) ++ [.bool (bits .and .u64 ((x : Int) / 2 ^ (k % 64)) 1 == 1)]) rfl _ _ _ _ rfl slBool rfl (HOWN.out.keep (S := fun _ => False) (by repeat (first | exact Only.refl _ _ | apply Only.alloc | apply Only.drewN)) (fun _ _ => id)) rfl (Src.row (cs := #[.bool (bits .and .u64 ((x : Int) / 2 ^ (k % 64)) 1 == 1)]) (t := 4) (fr := (0, 0)) Try.underlying30 (heap_alloc_new' _ _ _ (by simp)) 1 1 rfl (by simp [Value.oneCell'])) rfl rfl (by unfold maxLen; omega) (by omega) ?_)
      intro a' cap' w2 hG
      have HG := Lib.hid hG
      have HO2 : Hid (Same W w2) := Lib.hid (Only.trans HO.out (Only.trans ((Only.refl (At aa) wr).alloc _) HG.out.only (fun _ _ h => h)) (fun j hj h => by have := HAT.out j h; omega))
      clear hG c
      go_wp2_with fail
      go_roundw
      case rel =>
        refine ⟨k + 1, a', cap', by omega, rfl, by go_num, ?_, HO2.out, fun j hj => ?_⟩
        · have := HG.out.own
          rw [HT.out] at this
          rw [HN.out, ← B_app]
          exact this
        · rcases HG.out.fresh j hj with f | f
          · exact HAT.out j f
          · have := HO.out.size
            simp at f
            omega
      case measure => simp [intOf]; omega
    · obtain rfl : k = M := by omega
      go_wp2_with fail
      go_ret
      refine ⟨aa, cc, by rw [bitsOf_len]; rfl, ⟨?_, by rw [bitsOf_len]⟩, Same.trans HS.out HO.out, fun j hj => ?_⟩
      · rw [bitsOf_len]; exact HOWN.out.rd
      · have := HAT.out j hj
        have := HK.out
        omega
end Go.Proofs.Ytpiajkabikbdnaa.bs

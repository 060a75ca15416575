/-
  Bitsets: how many bits are set: OnesCount64, popcntSlice, Count, Any, None, All.
-/
import Derived.Test.YtgndpckcdageiaaBsSaid64
import Derived.Test.YtgndpckcdageiaaPop64
import Derived.Test.YtgndpckcdageiaaBsCnt
import Derived.Laws.Bits128
import Derived.WalkSpells
namespace Go.Proofs.Ytgndpckcdageiaa.bs
open Go.RowKit Go.Proofs.Ytgndpckcdageiaa.base Go.Proofs.Ytgndpckcdageiaa.heap Go.Proofs.Ytgndpckcdageiaa.bit
set_option linter.unusedVariables false

open Go.Proofs.Ytgndpckcdageiaa.pop64
theorem wrap_lt {a : Nat} (ha : Lt64 a) : IntKind.u64.wrap (a : Int) = (a : Int) := by
  unfold Lt64 at ha
  rw [IntKind.wrap_u64]; omega
theorem stage (x c m : Nat) (hx : Lt64 x) (hm : Lt64 m) (hs : Lt64 ((x / c &&& m) + (x &&& m))) : IntKind.u64.wrap (bits .and .u64 ((x : Int) / (c : Int)) (m : Int) + bits .and .u64 (x : Int) (m : Int)) = (((x / c &&& m) + (x &&& m) : Nat) : Int) := by
  have h1 : Lt64 (x / c) := Nat.lt_of_le_of_lt (Nat.div_le_self _ _) hx
  rw [← Int.natCast_ediv, and_nat h1 hm, and_nat hx hm, ← Int.natCast_add, wrap_lt hs]
theorem stage3 (x c m : Nat) (hm : Lt64 m) (hs : Lt64 (x / c + x)) : bits .and .u64 (IntKind.u64.wrap ((x : Int) / (c : Int) + (x : Int))) (m : Int) = (((x / c + x) &&& m : Nat) : Int) := by
  rw [← Int.natCast_ediv, ← Int.natCast_add, wrap_lt hs, and_nat hs hm]
theorem stage4 (x c : Nat) (hs : Lt64 (x + x / c)) : IntKind.u64.wrap ((x : Int) + (x : Int) / (c : Int)) = ((x + x / c : Nat) : Int) := by
  rw [← Int.natCast_ediv, ← Int.natCast_add, wrap_lt hs]
theorem stage7 (x : Nat) : bits .and .i64 (wrap64 (x : Int)) 127 = ((x % 128 : Nat) : Int) := by
  rw [i64_and127]
  unfold wrap64
  omega
theorem pop_val (x : Nat) (hx : Lt64 x) :
    let X := (x : Int)
    let x1 := IntKind.u64.wrap (bits .and .u64 (X / 2) 6148914691236517205 + bits .and .u64 X 6148914691236517205)
    let x2 := IntKind.u64.wrap (bits .and .u64 (x1 / 4) 3689348814741910323 + bits .and .u64 x1 3689348814741910323)
    let x3 := bits .and .u64 (IntKind.u64.wrap (x2 / 16 + x2)) 1085102592571150095
    let x4 := IntKind.u64.wrap (x3 + x3 / 256)
    let x5 := IntKind.u64.wrap (x4 + x4 / 65536)
    let x6 := IntKind.u64.wrap (x5 + x5 / 4294967296)
    bits .and .i64 (wrap64 x6) 127 = (cnt 64 x : Int) := by
  obtain ⟨h0, h1, h2, h3, h4, h5, h6⟩ := pc_eq x hx
  rw [← h0]
  unfold pc
  dsimp only at *
  have l1 : Lt64 6148914691236517205 := by unfold Lt64; decide
  have l2 : Lt64 3689348814741910323 := by unfold Lt64; decide
  have l3 : Lt64 1085102592571150095 := by unfold Lt64; decide
  have s1 := stage x 2 6148914691236517205 hx l1 h1
  have s2 := stage _ 4 3689348814741910323 h1 l2 h2
  have s3 := stage3 _ 16 1085102592571150095 l3 h3
  have s4 := stage4 _ 256 h4
  have s5 := stage4 _ 65536 h5
  have s6 := stage4 _ 4294967296 h6
  simp only [Int.cast_ofNat_Int] at s1 s2 s3 s4 s5 s6
  rw [s1, s2, s3, s4, s5, s6, stage7]

/-- a row of words that is read -/
structure Row (w : World) (b off : Nat) (l : List Nat) (n : Nat) : Prop where
  cell : ∀ i, i < n → w.cell? ⟨b, off + i, none⟩ = some (.int .u64 (l.getD i 0 : Nat))
  fits : Ok l

theorem O.ok.words {o : O} {w : World} (h : o.ok w) : ∃ b, o.a = some ⟨b, 0, none⟩ ∧ Row w b 0 o.ws o.m := by
  obtain ⟨b, ha, hb, hne, hc, hf⟩ := h.row
  exact ⟨b, ha, ⟨fun i hi => by rw [Nat.zero_add]; exact hc i hi, h.fits⟩⟩

theorem notNil (p : Nat) (w : World) : Calls Try.prog 43 #[.pointer (some ⟨p, 0, none⟩)] w fun e w' => e = .returned (.tuple #[]) ∧ w' = w := by
  go_enter Try.func43, Try.ntmps43
  go_wp2
  go_end0
  exact ⟨rfl, rfl⟩

theorem cnt_pos {x : Nat} (hx : Lt64 x) (h : x ≠ 0) : 0 < cnt 64 x := by
  refine Nat.pos_of_ne_zero (fun h0 => h ?_)
  apply Nat.eq_of_testBit_eq
  intro k
  rw [Nat.zero_testBit]
  by_cases hk : k < 64
  · rw [cnt_testBit, List.length_eq_zero_iff, List.filter_eq_nil_iff] at h0
    have := h0 k (List.mem_range.2 hk)
    simpa using this
  · exact testBit_far hx (by omega)
theorem countW_zeros (l : List Nat) (n : Nat) (h : ∀ k, k < n → l.getD k 0 = 0) : countW l (64 * n) = 0 := by
  induction n with
  | zero => rfl
  | succ n ih => rw [countW_next, ih (fun k hk => h k (by omega)), h n (by omega), cnt_zero]
/-- the first word that is not 0 -/
theorem first_word (l : List Nat) (n : Nat) : ∃ d, d ≤ n ∧ (∀ k, k < d → l.getD k 0 = 0) ∧ (d < n → l.getD d 0 ≠ 0) := by
  induction n with
  | zero => exact ⟨0, Nat.le_refl _, fun k hk => by omega, fun h => by omega⟩
  | succ n ih =>
    obtain ⟨d, h1, h2, h3⟩ := ih
    by_cases hd : d < n
    · exact ⟨d, by omega, h2, fun _ => h3 hd⟩
    · obtain rfl : d = n := by omega
      by_cases hz : l.getD d 0 = 0
      · exact ⟨d + 1, Nat.le_refl _, fun k hk => by
          by_cases hkd : k = d
          · subst hkd; exact hz
          · exact h2 k (by omega), fun h => by omega⟩
      · exact ⟨d, by omega, h2, fun _ => hz⟩

end Go.Proofs.Ytgndpckcdageiaa.bs

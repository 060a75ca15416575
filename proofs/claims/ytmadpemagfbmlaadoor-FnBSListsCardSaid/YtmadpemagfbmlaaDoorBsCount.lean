/-
  Bitsets: how many bits are set: OnesCount64, popcntSlice, Count, Any, None, All.
-/
import Derived.Test.YtmadpemagfbmlaaDoorBsSaid64
import Derived.Test.YtmadpemagfbmlaaDoorPop64
import Derived.Test.YtmadpemagfbmlaaDoorBsCnt
import Derived.Laws.Bits128
import Derived.WalkSpells
namespace Go.Proofs.YtmadpemagfbmlaaDoor.bs
open Go.RowKit Go.Proofs.YtmadpemagfbmlaaDoor.base Go.Proofs.YtmadpemagfbmlaaDoor.heap Go.Proofs.YtmadpemagfbmlaaDoor.bit
set_option linter.unusedVariables false

open Go.Proofs.YtmadpemagfbmlaaDoor.pop64
theorem wrap_lt {a : Nat} (ha : Lt64 a) : IntKind.u64.wrap (a : Int) = (a : Int) := by
  unfold Lt64 at ha
  rw [IntKind.wrap_u64]; omega
theorem stage (x c m : Nat) (hx : Lt64 x) (hm : Lt64 m) (hs : Lt64 ((x / c &&& m) + (x &&& m))) : IntKind.u64.wrap (bits .and .u64 ((x : Int) / (c : Int)) (m : Int) + bits .and .u64 (x : Int) (m : Int)) = (((x / c &&& m) + (x &&& m) : Nat) : Int) := by
  have h1 : Lt64 (x / c) := Nat.lt_of_le_of_lt (Nat.div_le_self _ _) hx
  rw [← Int.natCast_ediv, and_nat h1 hm, and_nat hx hm, ← Int.natCast_add, wrap_lt hs]
theorem stage3 (x c m : Nat) (hm : Lt64 m) (hs : Lt64 (x / c + x)) : bits .and .u64 (IntKind.u64.wrap ((x : Int) / (c : Int) + (x : Int))) (m : Int) = (((x / c + x) &&& m : Nat) : Int) := by
  rw [← Int.natCast_ediv, ← Int.natCast_add, wrap_lt hs, and_nat hs hm]
theorem stage4 (x c : Nat) (hs : Lt64 (x + x / c)) : IntKind.u64.wrap ((x : Int) + (x : Int) / (c : Int)) = ((x + x / c : Nat) : Int) := by
  rw [← Int.natCast_ediv, ← Int.natCast_add, wrap_lt hs]
theorem stage7 (x : Nat) : bits .and .i64 (wrap64 (x : Int)) 127 = ((x % 128 : Nat) : Int) := by
  rw [i64_and127]
  unfold wrap64
  omega
theorem pop_val (x : Nat) (hx : Lt64 x) :
    let X := (x : Int)
    let x1 := IntKind.u64.wrap (bits .and .u64 (X / 2) 6148914691236517205 + bits .and .u64 X 6148914691236517205)
    let x2 := IntKind.u64.wrap (bits .and .u64 (x1 / 4) 3689348814741910323 + bits .and .u64 x1 3689348814741910323)
    let x3 := bits .and .u64 (IntKind.u64.wrap (x2 / 16 + x2)) 1085102592571150095
    let x4 := IntKind.u64.wrap (x3 + x3 / 256)
    let x5 := IntKind.u64.wrap (x4 + x4 / 65536)
    let x6 := IntKind.u64.wrap (x5 + x5 / 4294967296)
    bits .and .i64 (wrap64 x6) 127 = (cnt 64 x : Int) := by
  obtain ⟨h0, h1, h2, h3, h4, h5, h6⟩ := pc_eq x hx
  rw [← h0]
  unfold pc
  dsimp only at *
  have l1 : Lt64 6148914691236517205 := by unfold Lt64; decide
  have l2 : Lt64 3689348814741910323 := by unfold Lt64; decide
  have l3 : Lt64 1085102592571150095 := by unfold Lt64; decide
  have s1 := stage x 2 6148914691236517205 hx l1 h1
  have s2 := stage _ 4 3689348814741910323 h1 l2 h2
  have s3 := stage3 _ 16 1085102592571150095 l3 h3
  have s4 := stage4 _ 256 h4
  have s5 := stage4 _ 65536 h5
  have s6 := stage4 _ 4294967296 h6
  simp only [Int.cast_ofNat_Int] at s1 s2 s3 s4 s5 s6
  rw [s1, s2, s3, s4, s5, s6, stage7]

set_option maxHeartbeats 1600000 in
theorem onesCount (x : Nat) (hx : Lt64 x) (w : World) : Calls Tryd.prog 24 #[.int .u64 (x : Int)] w fun e w' => e = .returned (.int .i64 (cnt 64 x : Int)) ∧ w' = w := by
  go_enter Tryd.func24, Tryd.ntmps24
  go_wp2
  go_ret
  exact ⟨ret_int (pop_val x hx), rfl⟩

/-- a row of words that is read -/
structure Row (w : World) (b off : Nat) (l : List Nat) (n : Nat) : Prop where
  cell : ∀ i, i < n → w.cell? ⟨b, off + i, none⟩ = some (.int .u64 (l.getD i 0 : Nat))
  fits : Ok l

set_option maxRecDepth 100000 in
set_option maxHeartbeats 1600000 in
theorem popcnt (b off cap n : Nat) (l : List Nat) (w : World) (h : Row w b off l n) (hn : n ≤ 1048576) :
    Calls Tryd.prog 20 #[.slice (some ⟨b, off, none⟩) n cap] w fun e w' => e = .returned (.int .u64 (countW l (64 * n) : Int)) ∧ ∃ m, w' = w.drewN m := by
  have H := Lib.hid h
  have hb : 0 < n → b < w.heap.size := fun h0 => World.block_lt_of_cell? w _ (h.cell 0 h0)
  clear h
  have HW : Hid (∀ i, i < n → Lt64 (l.getD i 0)) := Lib.hid (fun i _ => H.out.fits.at i)
  clear hb
  go_enter Tryd.func20, Tryd.ntmps20
  go_wp2
  go_loop [3, 4, 5, 6, 8] (fun c0 c1 c2 c3 i => ∃ k n0 n1 n2 n3 : Nat, c0 = .int .u64 (n0 : Int) ∧ c1 = .int .u64 (n1 : Int) ∧ c2 = .int .u64 (n2 : Int) ∧ c3 = .int .u64 (n3 : Int) ∧ i = .int .i64 (k : Int) ∧ k ≤ n ∧ n0 ≤ 64 * n ∧ n1 ≤ 64 * n ∧ n2 ≤ 64 * n ∧ n3 ≤ 64 * n ∧ Hid (n0 + n1 + n2 + n3 = countW l (64 * k))) (fun _ _ _ _ i => n - (intOf i).toNat)
  case atStart => exact ⟨0, 0, 0, 0, 0, rfl, rfl, rfl, rfl, rfl, by omega, by omega, by omega, by omega, by omega, Lib.hid rfl⟩
  case round =>
    obtain ⟨k, n0, n1, n2, n3, rfl, rfl, rfl, rfl, rfl, hk, b0, b1, b2, b3, HS⟩ := hrel
    by_cases hlt : k + 4 ≤ n
    · have hlt' : (k : Int) ≤ (n : Int) - 4 := by omega
      have g0 := H.out.cell k (by omega)
      have g1 := H.out.cell (k + 1) (by omega)
      have g2 := H.out.cell (k + 2) (by omega)
      have g3 := H.out.cell (k + 3) (by omega)
      have HN : Hid (countW l (64 * (k + 4)) = countW l (64 * k) + cnt 64 (l.getD k 0) + cnt 64 (l.getD (k + 1) 0) + cnt 64 (l.getD (k + 2) 0) + cnt 64 (l.getD (k + 3) 0)) := Lib.hid (by
        rw [countW_next l (k + 3), countW_next l (k + 2), countW_next l (k + 1), countW_next l k])
      have hle := countW_le l (64 * (k + 4))
      have q0 := Lib.hid (fun wx => onesCount _ (HW.out k (by omega)) wx)
      have q1 := Lib.hid (fun wx => onesCount _ (HW.out (k + 1) (by omega)) wx)
      have q2 := Lib.hid (fun wx => onesCount _ (HW.out (k + 2) (by omega)) wx)
      have q3 := Lib.hid (fun wx => onesCount _ (HW.out (k + 3) (by omega)) wx)
      have z0 := cnt_le 64 (l.getD k 0)
      have z1 := cnt_le 64 (l.getD (k + 1) 0)
      have z2 := cnt_le 64 (l.getD (k + 2) 0)
      have z3 := cnt_le 64 (l.getD (k + 3) 0)
      generalize cnt 64 (l.getD k 0) = y0 at *
      generalize cnt 64 (l.getD (k + 1) 0) = y1 at *
      generalize cnt 64 (l.getD (k + 2) 0) = y2 at *
      generalize cnt 64 (l.getD (k + 3) 0) = y3 at *
      generalize l.getD k 0 = x0 at *
      generalize l.getD (k + 1) 0 = x1 at *
      generalize l.getD (k + 2) 0 = x2 at *
      generalize l.getD (k + 3) 0 = x3 at *
      have t1 : ((k : Int) + 1).toNat = k + 1 := by omega
      have t2 : ((k : Int) + 2).toNat = k + 2 := by omega
      have t3 : ((k : Int) + 3).toNat = k + 3 := by omega
      have i0 : (k : Int) < (n : Int) := by omega
      have i1 : (k : Int) + 1 < (n : Int) := by omega
      have i2 : (k : Int) + 2 < (n : Int) := by omega
      have i3 : (k : Int) + 3 < (n : Int) := by omega
      have j1 : (0 : Int) ≤ (k : Int) + 1 := by omega
      have j2 : (0 : Int) ≤ (k : Int) + 2 := by omega
      have j3 : (0 : Int) ≤ (k : Int) + 3 := by omega
      go_wp2_with (first | (go_at_call 24; (with_reducible refine (q0.out _).mono ?_); rintro e w1 ⟨rfl, rfl⟩) | (go_at_call 24; (with_reducible refine (q1.out _).mono ?_); rintro e w1 ⟨rfl, rfl⟩) | (go_at_call 24; (with_reducible refine (q2.out _).mono ?_); rintro e w1 ⟨rfl, rfl⟩) | (go_at_call 24; (with_reducible refine (q3.out _).mono ?_); rintro e w1 ⟨rfl, rfl⟩))
      have hs := HS.out
      have hn4 := HN.out
      go_round
      case rel => exact ⟨k + 4, n0 + y0, n1 + y1, n2 + y2, n3 + y3, by go_num, by go_num, by go_num, by go_num, by go_num, by omega, by omega, by omega, by omega, by omega, Lib.hid (by omega)⟩
      case measure => simp [intOf]; omega
    · have hge : ¬ (k : Int) ≤ (n : Int) - 4 := by omega
      have hs := HS.out
      go_wp2
      go_loop [2, 8] (fun c i => ∃ k m : Nat, c = .int .u64 (m : Int) ∧ i = .int .i64 (k : Int) ∧ k ≤ n ∧ Hid (m = countW l (64 * k))) (fun _ i => n - (intOf i).toNat)
      case atStart => exact ⟨k, n0 + n1 + n2 + n3, by go_num, rfl, hk, Lib.hid hs⟩
      case round =>
        obtain ⟨k, m, rfl, rfl, hk, HM⟩ := hrel
        by_cases hlt : k < n
        · have hlt' : (k : Int) < (n : Int) := by omega
          have g0 := H.out.cell k (by omega)
          have HN := Lib.hid (countW_next l k)
          have hle := countW_le l (64 * (k + 1))
          have q0 := Lib.hid (fun wx => onesCount _ (HW.out k (by omega)) wx)
          have z0 := cnt_le 64 (l.getD k 0)
          have hmle : m ≤ 64 * n := by have h1 := HM.out; have h2 := countW_le l (64 * k); omega
          generalize cnt 64 (l.getD k 0) = y0 at *
          generalize l.getD k 0 = x0 at *
          go_wp2_with (go_at_call 24; (with_reducible refine (q0.out _).mono ?_); rintro e w1 ⟨rfl, rfl⟩)
          go_round
          case rel => exact ⟨k + 1, m + y0, by go_num, by go_num, by omega, Lib.hid (by rw [HM.out, HN.out])⟩
          case measure => simp [intOf]; omega
        · obtain rfl : k = n := by omega
          have hge : ¬ (k : Int) < (k : Int) := by omega
          have hm := HM.out
          subst hm
          go_wp2
          go_ret
          exact ⟨rfl, 0, rfl⟩

/-- no words: nothing is read -/
theorem popcnt_none (a : Option Addr) (cap : Nat) (w : World) :
    Calls Tryd.prog 20 #[.slice a 0 cap] w fun e w' => e = .returned (.int .u64 0) ∧ ∃ m, w' = w.drewN m := by
  go_enter Tryd.func20, Tryd.ntmps20
  go_wp2
  go_loop [3, 4, 5, 6, 8] (fun c0 c1 c2 c3 i => c0 = .int .u64 0 ∧ c1 = .int .u64 0 ∧ c2 = .int .u64 0 ∧ c3 = .int .u64 0 ∧ i = .int .i64 0) (fun _ _ _ _ _ => 0)
  case atStart => exact ⟨rfl, rfl, rfl, rfl, rfl⟩
  case round =>
    obtain ⟨rfl, rfl, rfl, rfl, rfl⟩ := hrel
    go_wp2
    go_loop [2, 8] (fun c i => c = .int .u64 0 ∧ i = .int .i64 0) (fun _ _ => 0)
    case atStart => exact ⟨rfl, rfl⟩
    case round =>
      obtain ⟨rfl, rfl⟩ := hrel
      go_wp2
      go_ret
      exact ⟨rfl, 0, rfl⟩

theorem O.ok.words {o : O} {w : World} (h : o.ok w) : ∃ b, o.a = some ⟨b, 0, none⟩ ∧ Row w b 0 o.ws o.m := by
  obtain ⟨b, ha, hb, hne, hc, hf⟩ := h.row
  exact ⟨b, ha, ⟨fun i hi => by rw [Nat.zero_add]; exact hc i hi, h.fits⟩⟩

/-- Count -/
theorem count (o : O) (b : List Bool) (w : World) (h : o.ok w) (hr : o.rep b) (hn : o.m ≤ 1048576) :
    Calls Tryd.prog 15 #[o.ptr] w fun e w' => e = .returned (.int .u64 ((ones b).length : Int)) ∧ ∃ m, w' = w.drewN m := by
  obtain ⟨x, ha, hrow⟩ := h.words
  obtain ⟨c0, c1, f0, f1⟩ := h.cells
  rw [ha] at c1
  have HP : Hid (∀ k, Calls Tryd.prog 20 #[.slice (some ⟨x, 0, none⟩) o.m o.cap] (w.drewN k) fun e w' => e = .returned (.int .u64 ((ones b).length : Int)) ∧ ∃ m, w' = (w.drewN k).drewN m) := Lib.hid (fun k => by
    have hp := popcnt x 0 o.cap o.m o.ws (w.drewN k) ⟨hrow.cell, hrow.fits⟩ hn
    rwa [countW_all hr.bits hr.room] at hp)
  have hcmp : ∀ wx, (binOp .neq 44 (.slice (some ⟨x, 0, none⟩) o.m o.cap) (.slice none 0 0)).run Tryd.prog wx = .ok (.bool true) wx := fun wx => run_neq_slice_nil_any _ _ _ _ _ _ _ _ Tryd.underlying44
  clear hrow h hr ha
  generalize (ones b).length = y at *
  unfold O.ptr
  go_enter Tryd.func15, Tryd.ntmps15
  go_wp2_with fail
  refine (HP.out 0).mono ?_
  rintro e w' ⟨rfl, m, rfl⟩
  go_wp2_with fail
  go_ret
  exact ⟨rfl, m, by simp⟩

theorem cnt_pos {x : Nat} (hx : Lt64 x) (h : x ≠ 0) : 0 < cnt 64 x := by
  refine Nat.pos_of_ne_zero (fun h0 => h ?_)
  apply Nat.eq_of_testBit_eq
  intro k
  rw [Nat.zero_testBit]
  by_cases hk : k < 64
  · rw [cnt_testBit, List.length_eq_zero_iff, List.filter_eq_nil_iff] at h0
    have := h0 k (List.mem_range.2 hk)
    simpa using this
  · exact testBit_far hx (by omega)
theorem countW_zeros (l : List Nat) (n : Nat) (h : ∀ k, k < n → l.getD k 0 = 0) : countW l (64 * n) = 0 := by
  induction n with
  | zero => rfl
  | succ n ih => rw [countW_next, ih (fun k hk => h k (by omega)), h n (by omega), cnt_zero]
/-- the first word that is not 0 -/
theorem first_word (l : List Nat) (n : Nat) : ∃ d, d ≤ n ∧ (∀ k, k < d → l.getD k 0 = 0) ∧ (d < n → l.getD d 0 ≠ 0) := by
  induction n with
  | zero => exact ⟨0, Nat.le_refl _, fun k hk => by omega, fun h => by omega⟩
  | succ n ih =>
    obtain ⟨d, h1, h2, h3⟩ := ih
    by_cases hd : d < n
    · exact ⟨d, by omega, h2, fun _ => h3 hd⟩
    · obtain rfl : d = n := by omega
      by_cases hz : l.getD d 0 = 0
      · exact ⟨d + 1, Nat.le_refl _, fun k hk => by
          by_cases hkd : k = d
          · subst hkd; exact hz
          · exact h2 k (by omega), fun h => by omega⟩
      · exact ⟨d, by omega, h2, fun _ => hz⟩

end Go.Proofs.YtmadpemagfbmlaaDoor.bs

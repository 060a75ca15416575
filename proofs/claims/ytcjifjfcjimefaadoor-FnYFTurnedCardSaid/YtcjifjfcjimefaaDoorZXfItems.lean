/-
  The law's small functions.
-/
import Derived.Test.YtcjifjfcjimefaaDoorZXfInv
import Derived.Test.YtcjifjfcjimefaaDoorMB
namespace Go.Proofs.YtcjifjfcjimefaaDoor.xf
open Go.RowKit Go.Proofs.YtcjifjfcjimefaaDoor.base Go.Proofs.YtcjifjfcjimefaaDoor.heap Go.Proofs.YtcjifjfcjimefaaDoor.rows Go.Proofs.YtcjifjfcjimefaaDoor.mapn
set_option linter.unusedVariables false

set_option maxRecDepth 100000 in
theorem trBits_of (sz : Nat) (w : World) (h : sz < 256) : Calls Tryd.prog 5 #[.int .u8 (sz : Int)] w (fun e w' => ∃ m, Bits m ∧ e = .returned (.int .i64 (m : Int)) ∧ Same w w') := by
  have h4 : sz % 4 = 0 ∨ sz % 4 = 1 ∨ sz % 4 = 2 ∨ sz % 4 = 3 := by omega
  rcases h4 with h4 | h4 | h4 | h4
  · go_enter Tryd.func5, Tryd.ntmps5
    go_wp2_with fail
    rw [h4]
    go_ret
    exact ⟨8, by unfold Bits; omega, by kernel_rfl, Only.refl _ _⟩
  · go_enter Tryd.func5, Tryd.ntmps5
    go_wp2_with fail
    rw [h4]
    go_ret
    exact ⟨16, by unfold Bits; omega, by kernel_rfl, Only.refl _ _⟩
  · go_enter Tryd.func5, Tryd.ntmps5
    go_wp2_with fail
    rw [h4]
    go_ret
    exact ⟨32, by unfold Bits; omega, by kernel_rfl, Only.refl _ _⟩
  · go_enter Tryd.func5, Tryd.ntmps5
    go_wp2_with fail
    rw [h4]
    go_ret
    exact ⟨64, by unfold Bits; omega, by kernel_rfl, Only.refl _ _⟩
set_option maxRecDepth 100000 in
theorem trMask_of (m : Nat) (w : World) (h : Bits m) : Calls Tryd.prog 7 #[.int .i64 (m : Int)] w (SayP (uv (2 ^ m - 1)) w) := by
  rcases h with rfl | rfl | rfl | rfl
  · show Calls Tryd.prog 7 #[.int .i64 8] w (SayP (.int .u64 255) w)
    go_enter Tryd.func7, Tryd.ntmps7
    go_wp2_with fail
    go_ret
    exact ⟨rfl, Only.refl _ _⟩
  · show Calls Tryd.prog 7 #[.int .i64 16] w (SayP (.int .u64 65535) w)
    go_enter Tryd.func7, Tryd.ntmps7
    go_wp2_with fail
    go_ret
    exact ⟨rfl, Only.refl _ _⟩
  · show Calls Tryd.prog 7 #[.int .i64 32] w (SayP (.int .u64 4294967295) w)
    go_enter Tryd.func7, Tryd.ntmps7
    go_wp2_with fail
    go_ret
    exact ⟨rfl, Only.refl _ _⟩
  · show Calls Tryd.prog 7 #[.int .i64 64] w (SayP (.int .u64 18446744073709551615) w)
    go_enter Tryd.func7, Tryd.ntmps7
    go_wp2_with fail
    go_ret
    exact ⟨rfl, Only.refl _ _⟩
theorem slIt : SliceOf Tryd.prog 22 43 2 16 := SliceOf.mk (z := .agg #[.int .u64 0, .int .i64 0]) Tryd.underlying22 (by kernel_rfl) rfl
/-- entries that are looked at -/
def cutI (m : Nat) (l : List It) : List It := (l.take 60).map (fun y => (y.1 % 2 ^ m, y.2))
/-- a new list -/
structure New {α : Type} (e : Nat) (c : α → List Value) (K : Nat) (w wr : World) (a : Option Addr) (n cap : Nat) (l : List α) : Prop where
  row : OS e c K wr a n cap l
  same : Same w wr
  new : ∀ k, At a k → w.heap.size ≤ k
theorem New.nil {α : Type} (e : Nat) (c : α → List Value) (K : Nat) (w : World) : New e c K w w none 0 0 [] := ⟨OS.nil _ _ _ _, Only.refl _ _, fun k hk => hk.elim⟩
theorem New.still {α : Type} {e : Nat} {c : α → List Value} {K : Nat} {w wr wk : World} {a : Option Addr} {n cap : Nat} {l : List α} (h : New e c K w wr a n cap l) (hs : Same wr wk) : New e c K w wk a n cap l := ⟨h.row.still hs, h.same.trans hs, h.new⟩
theorem New.step {α : Type} {e : Nat} {c : α → List Value} {K : Nat} {w wr wk w8 : World} {a a2 : Option Addr} {n cap cap2 : Nat} {l : List α} {y : α} (h : New e c K w wr a n cap l) (hs : Same wr wk) (hG : Grew e K wk w8 a a2 1 (n + 1) cap cap2 (l.flatMap c ++ c y)) : New e c K w w8 a2 (n + 1) cap2 (l ++ [y]) := by
  have z1 := h.same.size
  have z2 := hs.size
  refine ⟨⟨by rw [flat_snoc]; exact hG.own, by rw [List.length_append, h.row.2]; rfl⟩, new_only (h.same.trans hs) hG.only h.new, fun k hk => ?_⟩
  rcases hG.fresh k hk with h' | h'
  · exact h.new k h'
  · omega
set_option maxRecDepth 100000 in
set_option maxHeartbeats 1600000 in
theorem trItems_of (w : World) (a : Option Addr) (n cap m : Nat) (l : List It) (hR : RS itc 2 w a n cap l) (hm : Bits m) (hl : ∀ y ∈ l, y.1 < 2 ^ 64) : Calls Tryd.prog 6 #[.slice a n cap, uv (2 ^ m - 1)] w (fun e w' => ∃ a' n' c', e = .returned (.slice a' n' c') ∧ New 43 itc 2 w w' a' n' c' (cutI m l)) := by
  have HR := Lib.hid hR
  have HL := Lib.hid hl
  have bd := hR.bound
  have hln := hR.2
  have hM : Hid (∀ k : Nat, k < 2 ^ 64 → k &&& (2 ^ m - 1) = k % 2 ^ m) := Lib.hid (fun k _ => Nat.and_two_pow_sub_one_eq_mod k m)
  have hmk : 2 ^ m - 1 < 2 ^ 64 := by rcases hm with rfl | rfl | rfl | rfl <;> omega
  obtain ⟨M, hMM⟩ : ∃ M, 2 ^ m - 1 = M := ⟨_, rfl⟩
  rw [hMM] at hM hmk ⊢
  have HMK := Lib.hid hmk
  have HN0 := Lib.hid (New.nil 43 itc 2 w)
  clear hR hl hm hMM hmk
  show Calls Tryd.prog 6 #[.slice a n cap, .int .u64 (M : Int)] w _
  go_enter Tryd.func6, Tryd.ntmps6
  go_wp2_with fail
  go_loopw [5, 6] (fun o i wr => ∃ (j : Nat) (oa : Option Addr) (oc : Nat), o = .slice oa j oc ∧ i = .int .i64 (j : Int) ∧ j ≤ n ∧ j ≤ 60 ∧ Hid (New 43 itc 2 w wr oa j oc (cutI m (l.take j)))) (fun _ i _ => 60 - (intOf i).toNat)
  case atStart => exact ⟨0, none, 0, rfl, rfl, Nat.zero_le _, Nat.zero_le _, HN0⟩
  case round =>
    clear HN0
    obtain ⟨j, oa, oc, rfl, rfl, hj, hj60, HG⟩ := hrel
    have hbo := HG.out.row.bound
    by_cases hlt : j < n
    · have hlt' : (j : Int) < (n : Int) := by omega
      by_cases h60 : j < 60
      · have h60' : (j : Int) < 60 := by omega
        obtain ⟨y, hy⟩ := HR.out.get hlt
        obtain ⟨b, off, ha, hb, hc⟩ := (HR.out.still HG.out.same).at itc_len (by omega)
        have hc2 := hc j y hy
        have c0 : wr.cell? ⟨b, off + j * 2, none⟩ = some (.int .u64 (y.1 : Int)) := hc2 0 _ rfl
        have c1 : wr.cell? ⟨b, off + j * 2 + 1, none⟩ = some (.int .i64 y.2) := hc2 1 _ rfl
        have HY := Lib.hid hy
        subst ha
        obtain ⟨kq, hkq⟩ : ∃ kq, y.1 &&& M = kq := ⟨_, rfl⟩
        have hand : bits .and .u64 (y.1 : Int) (M : Int) = (kq : Int) := by
          rw [← hkq]
          exact u64_and_nat y.1 M (by have := HL.out y (List.mem_of_getElem? hy); simpa using this) (by have := HMK.out; simpa using this)
        have HKQ : Hid (kq = y.1 % 2 ^ m) := Lib.hid (by rw [← hkq]; exact hM.out _ (HL.out y (List.mem_of_getElem? hy)))
        clear hc hc2 hy hkq
        go_wp2_with fail
        go_region_law (first
          | (refine step_app (j + 1) ((cutI m (l.take j)).flatMap itc ++ [.int .u64 (kq : Int), .int .i64 y.2]) (by rfl) _ _ _ _ (by rfl) slIt ?_ (HG.out.row.1.keep (S := fun _ => False) (by with_reducible repeat (first | exact Only.refl _ _ | apply Only.alloc | apply Only.drew)) (fun _ _ => id)) ?_ (Src.row (size := 2) (cs := #[.int .u64 (kq : Int), .int .i64 y.2]) (t := 43) (fr := (0, 0)) Tryd.underlying22 (show ((wr.alloc (.cells #[.int .u64 (kq : Int), .int .i64 y.2] 43)).drew).heap[wr.heap.size]? = _ from heap_alloc_new' wr _ _ rfl) 1 1 rfl (by simp [Value.oneCell'])) rfl rfl (by unfold maxLen; omega) (by omega) ?_; (go_simp); (go_simp); intro a2 c2 w9 hG))
        all_goals
          have HG2 : Hid (New 43 itc 2 w w9 a2 (j + 1) c2 (cutI m (l.take (j + 1)))) := Lib.hid (by
            have h9 := HG.out.step (y := (kq, y.2)) (((Only.refl _ wr).alloc _).drew) hG
            rw [take_snoc l j y HY.out]
            unfold cutI at h9 ⊢
            rw [List.take_of_length_le (by rw [List.length_append, List.length_take]; simp; omega), List.map_append]
            rw [List.take_of_length_le (by rw [List.length_take]; omega)] at h9
            rw [HKQ.out] at h9
            exact h9)
          clear hG HG
          first
          | (go_wp2_with fail)
          | skip
          exact ⟨⟨j + 1, a2, c2, rfl, by go_num, by omega, by omega, HG2⟩, by simp [intOf]; omega⟩
      · have h60' : ¬ (j : Int) < 60 := by omega
        obtain rfl : j = 60 := by omega
        go_wp2_with fail
        go_ret
        refine ⟨oa, 60, oc, rfl, ?_⟩
        have := HG.out
        unfold cutI at this ⊢
        rwa [List.take_take, Nat.min_self] at this
    · have hlt' : ¬ (j : Int) < (n : Int) := by omega
      obtain rfl : j = n := by omega
      go_wp2_with fail
      go_ret
      refine ⟨oa, j, oc, rfl, ?_⟩
      have := HG.out
      rwa [List.take_of_length_le (by rw [HR.out.2]; exact Nat.le_refl _)] at this
end Go.Proofs.YtcjifjfcjimefaaDoor.xf

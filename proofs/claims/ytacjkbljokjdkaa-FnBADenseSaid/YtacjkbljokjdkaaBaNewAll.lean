/-
  newBitArray with all bits set.
-/
import Derived.Test.YtacjkbljokjdkaaBaMk
import Derived.Test.YtacjkbljokjdkaaBaDoes
namespace Go.Proofs.Ytacjkbljokjdkaa.ba
open Go.RowKit Go.Proofs.Ytacjkbljokjdkaa.base Go.Proofs.Ytacjkbljokjdkaa.heap Go.Proofs.Ytacjkbljokjdkaa.rows Go.Proofs.Ytacjkbljokjdkaa.bit Go.Proofs.Ytacjkbljokjdkaa.bs
set_option linter.unusedVariables false
/-- k words with all bits set, and n in all -/
def fil (n k : Nat) : List Nat := List.replicate k 18446744073709551615 ++ List.replicate (n - k) 0
theorem fil_len {n k : Nat} (h : k ≤ n) : (fil n k).length = n := by simp [fil]; omega
theorem fil_zero (n : Nat) : fil n 0 = List.replicate n 0 := by simp [fil]
theorem fil_next {n k : Nat} (h : k < n) : (fil n k).set k 18446744073709551615 = fil n (k + 1) := by
  unfold fil
  rw [List.set_append_right _ _ (by simp), List.length_replicate, Nat.sub_self]
  obtain ⟨d, hd⟩ : ∃ d, n - k = d + 1 := ⟨n - k - 1, by omega⟩
  rw [hd, show n - (k + 1) = d by omega, List.replicate_succ, List.set_cons_zero, List.replicate_succ', List.append_assoc]
  rfl
theorem fil_full (n : Nat) : fil n n = List.replicate n 18446744073709551615 := by simp [fil]
theorem full_bit (n i : Nat) : bit (List.replicate n 18446744073709551615) i = true ↔ i < 64 * n := by
  unfold bit
  rw [List.getD_eq_getElem?_getD, List.getElem?_replicate]
  by_cases h : i / 64 < n
  · rw [if_pos h]
    show Nat.testBit 18446744073709551615 (i % 64) = true ↔ _
    rw [show (18446744073709551615 : Nat) = 2 ^ 64 - 1 by decide, Nat.testBit_two_pow_sub_one]
    have := Nat.mod_lt i (show 0 < 64 by omega)
    simp [this]; omega
  · rw [if_neg h]
    simp; omega
theorem full_rep (n : Nat) : Rep (wf (List.replicate n 18446744073709551615)) (List.range (64 * n)) :=
  ⟨Asc.range _, fun k => by rw [List.mem_range]; exact (full_bit n k).symm⟩
theorem full_ends {n : Nat} (h : 1 ≤ n) : LoB (List.replicate n 18446744073709551615) 0 ∧ HiB (List.replicate n 18446744073709551615) (64 * n - 1) :=
  ⟨⟨(full_bit n 0).2 (by omega), fun j _ => Nat.zero_le _⟩, ⟨(full_bit n _).2 (by omega), fun j hj => by have := (full_bit n j).1 hj; omega⟩⟩
set_option maxRecDepth 100000 in
set_option maxHeartbeats 1600000 in
theorem newD1 (size : Nat) (hsz : size ≤ 64000000) (hs1 : 1 ≤ size) (ab ao : Nat) (ac : Nat) (w : World) (hcell : w.cell? ⟨ab, ao, none⟩ = some (.bool true)) :
    Calls Try.prog 31 #[.int .u64 (size : Int), .slice (some ⟨ab, ao, none⟩) 1 ac] w (NewD (List.replicate ((size + 63) / 64) 18446744073709551615) 0 (64 * ((size + 63) / 64) - 1) true w) := by
  have HIW : Hid (∀ wx, Calls Try.prog 33 #[.int .u64 (size : Int)] wx fun e w' => e = .returned (.tuple #[.int .u64 ((size / 64 : Nat) : Int), .int .u64 ((size % 64 : Nat) : Int)]) ∧ w' = wx) := Lib.hid (fun wx => indexW size (by unfold Lt64; omega) wx)
  obtain ⟨n, HN⟩ : ∃ n, Hid ((size + 63) / 64 = n) := ⟨_, Lib.hid rfl⟩
  rw [HN.out]
  obtain ⟨hh, HH⟩ : ∃ hh, Hid (64 * n - 1 = hh) := ⟨_, Lib.hid rfl⟩
  rw [HH.out]
  have hn : n ≤ 1000000 := by have := HN.out; omega
  have hn1 : 1 ≤ n := by have := HN.out; omega
  have hmk := make_eq (P := Try.prog) (e := 79) (size := 1) (t := 93) (z := .int .u64 0) (bytes := 8) .u64 .u64 Try.underlying93 (by kernel_rfl) n (by omega) (by omega)
  have HS : Hid (size % 64 = 0 → size / 64 = n) := Lib.hid (fun h => by have := HN.out; omega)
  have HS2 : Hid (¬ size % 64 = 0 → size / 64 + 1 = n) := Lib.hid (fun h => by have := HN.out; omega)
  have hq : size / 64 ≤ 1000000 := by omega
  clear hs1
  generalize size / 64 = q at *
  generalize size % 64 = r at *
  go_enter Try.func31, Try.ntmps31
  go_wp2_with fail
  refine (HIW.out _).mono ?_
  rintro e w1 ⟨rfl, rfl⟩
  go_upto_if 15 with fail
  go_cut [5] (fun v wx => v = .int .u64 (n : Int) ∧ wx = w1)
  case first =>
    by_cases hr : r = 0
    · have hq2 := HS.out hr
      subst hr
      subst hq2
      go_wp2_with fail
      go_meet
      exact ⟨rfl, rfl⟩
    · have hq2 := HS2.out hr
      have hr' : (0 : Int) < (r : Int) := by omega
      subst hq2
      have h5 : IntKind.u64.wrap ((q : Int) + 1) = (q : Int) + 1 := by rw [IntKind.wrap_u64]; omega
      go_wp2_with fail
      go_meet
      exact ⟨by go_num, rfl⟩
  case rest =>
    obtain ⟨rfl, rfl⟩ := hcut
    have hab : ab < wc.heap.size := World.block_lt_of_cell? wc _ hcell
    have m1 : IntKind.u64.wrap ((n : Int) * 64) = (n : Int) * 64 := by rw [IntKind.wrap_u64]; omega
    have m2 : IntKind.u64.wrap ((n : Int) * 64 - 1) = (hh : Int) := by have := HH.out; rw [IntKind.wrap_u64]; omega
    have HD0 : Hid (∀ W0, W0 = ((wc.alloc (.cells (madeCells #[.int .u64 0] n) 79)).alloc (.cells #[.slice (some ⟨wc.heap.size, 0, none⟩) n n, .int .u64 0, .int .u64 0, .bool false] 95)) → Dn W0 (wc.heap.size + 1) (some ⟨wc.heap.size, 0, none⟩) n (fil n 0) 0 0 false ∧ Same wc W0) := Lib.hid (fun W0 e => by
      subst e
      rw [fil_zero]
      exact ⟨dn_made (heap_alloc_new' _ _ _ (by simp)) (new_old wc _ _) hn (by omega), ((Only.refl _ _).alloc _).alloc _⟩)
    have HFT := Lib.hid (new_foot wc)
    go_wp2_with fail
    obtain ⟨g, hg⟩ : ∃ g, wc.heap.size = g := ⟨_, rfl⟩
    obtain ⟨p, hp⟩ : ∃ p, g + 1 = p := ⟨_, rfl⟩
    rw [hg, hp]
    go_loopw [8] (fun i wr => ∃ k : Nat, k ≤ n ∧ i = .int .u64 (k : Int) ∧ Hid (Dn wr p (some ⟨g, 0, none⟩) n (fil n k) 0 0 false ∧ Same wc wr)) (fun i _ => n - (intOf i).toNat)
    case atStart =>
      refine ⟨0, Nat.zero_le _, rfl, Lib.hid ?_⟩
      have := HD0.out _ rfl
      rw [hg, hp] at this
      exact this
    case round =>
      obtain ⟨k, hk, rfl, HI⟩ := hrel
      have hn63 : IntKind.u64.wrap (n : Int) = (n : Int) := by rw [IntKind.wrap_u64]; omega
      have hfl : (fil n k).length = n := fil_len hk
      obtain ⟨b', hb', hb, hbp, c0, c1, c2, c3, hf, hc, hfb⟩ := HI.out.1.facts
      cases hb'
      rw [hfl] at c0
      by_cases hkn : k < n
      · have hkn' : (k : Int) < (n : Int) := by omega
        have hk0 : (0 : Int) ≤ (k : Int) := by omega
        have e0 := hc k (by omega)
        have f0 := hfb k
        have HNX : Hid (Dn (wr.setCell ⟨g, k, none⟩ (.int .u64 18446744073709551615)) p (some ⟨g, 0, none⟩) n (fil n (k + 1)) 0 0 false ∧ Same wc (wr.setCell ⟨g, k, none⟩ (.int .u64 18446744073709551615))) := Lib.hid (by
          obtain ⟨g1, g2⟩ := HI.out.1.put (w' := wr) (lo' := 0) (hi' := 0) (any' := false) rfl k 18446744073709551615 (by omega) (by unfold Lt64; omega) (Only.refl _ _) HI.out.1.obj
          rw [fil_next hkn] at g1
          exact ⟨g1, HI.out.2.setCell _ _ (fun h => by simp at h; omega)⟩)
        generalize (fil n k).getD k 0 = x at e0
        clear hc hf hfb hfl c1 c2 c3
        go_wp2_with fail
        go_roundw
        case rel => exact ⟨k + 1, by omega, by go_num, HNX⟩
        case measure => simp [intOf]; omega
      · obtain rfl : k = n := by omega
        have hkn' : ¬ (k : Int) < (k : Int) := by omega
        have f1 := hf 1
        have f2 := hf 2
        have f3 := hf 3
        have HFIN : Hid (Dn (((wr.setCell ⟨p, 1, none⟩ (.int .u64 0)).setCell ⟨p, 2, none⟩ (.int .u64 (hh : Int))).setCell ⟨p, 3, none⟩ (.bool true)) p (some ⟨g, 0, none⟩) k (List.replicate k 18446744073709551615) 0 hh true ∧ Same wc (((wr.setCell ⟨p, 1, none⟩ (.int .u64 0)).setCell ⟨p, 2, none⟩ (.int .u64 (hh : Int))).setCell ⟨p, 3, none⟩ (.bool true))) := Lib.hid (by
          have hO : Only (fun j => j = p) wr (((wr.setCell ⟨p, 1, none⟩ (.int .u64 0)).setCell ⟨p, 2, none⟩ (.int .u64 (hh : Int))).setCell ⟨p, 3, none⟩ (.bool true)) := (((Only.refl (fun j => j = p) wr).setCell ⟨p, 1, none⟩ _ (fun _ => rfl)).setCell ⟨p, 2, none⟩ _ (fun _ => rfl)).setCell ⟨p, 3, none⟩ _ (fun _ => rfl)
          have hD := HI.out.1.set3 0 hh true (setCell_heap (setCell_heap (setCell_heap HI.out.1.obj 1 (.int .u64 0)) 2 (.int .u64 (hh : Int))) 3 (.bool true)) hO
          rw [fil_full] at hD
          exact ⟨hD, new_only HI.out.2 hO (fun j e => by omega)⟩)
        clear hc hf hfb hfl
        go_wp2_with fail
        go_ret
        refine ⟨p, some ⟨g, 0, none⟩, k, rfl, HFIN.out.1, HFIN.out.2, ?_⟩
        rw [← hp, ← hg]
        exact HFT.out
set_option maxRecDepth 100000 in
set_option maxHeartbeats 1600000 in
theorem newBA1 (k : Nat) (hk : k ≤ 64000000) (hk1 : 1 ≤ k) (ab ao : Nat) (ac : Nat) (w : World) (hc : w.cell? ⟨ab, ao, none⟩ = some (.bool true)) :
    Calls Try.prog 27 #[.int .u64 (k : Int), .slice (some ⟨ab, ao, none⟩) 1 ac] w (NewA ⟨true, (k + 63) / 64, List.range (64 * ((k + 63) / 64))⟩ w) := by
  have HN := Lib.hid (newD1 k hk hk1 ab ao ac w hc)
  have hn1 : 1 ≤ (k + 63) / 64 := by omega
  clear hc
  obtain ⟨n, hn⟩ : ∃ n, (k + 63) / 64 = n := ⟨_, rfl⟩
  rw [hn] at HN hn1 ⊢
  go_enter Try.func27, Try.ntmps27
  go_wp2_with fail
  refine HN.out.mono ?_
  rintro e w1 ⟨p, a, c, rfl, hd, hs, hf⟩
  have HA : Hid (Arr w1 (.iface 85 (.pointer (some ⟨p, 0, none⟩))) ⟨true, n, List.range (64 * n)⟩ (Ft p a) ∧ Same w w1 ∧ ∀ k, Ft p a k → w.heap.size ≤ k) := Lib.hid (by
    have h1 := Arr.dense p a c _ 0 (64 * n - 1) true _ hd (full_rep n) ⟨Nat.zero_le _, by rw [List.length_replicate]; omega, fun e => (by cases e), fun _ => full_ends hn1⟩
    rw [List.length_replicate] at h1
    exact ⟨h1, hs, hf⟩)
  clear hd hs hf HN
  go_wp2_with fail
  go_ret
  exact ⟨_, _, _, rfl, HA.out⟩
end Go.Proofs.Ytacjkbljokjdkaa.ba

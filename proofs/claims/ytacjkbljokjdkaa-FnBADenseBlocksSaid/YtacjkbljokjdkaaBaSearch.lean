/-
  uintSlice.search: sort.Search over a list of places.
-/
import Derived.Test.YtacjkbljokjdkaaBaPairs
import Derived.Test.YtacjkbljokjdkaaBaSame
namespace Go.Proofs.Ytacjkbljokjdkaa.ba
open Go.RowKit Go.Proofs.Ytacjkbljokjdkaa.base Go.Proofs.Ytacjkbljokjdkaa.heap Go.Proofs.Ytacjkbljokjdkaa.rows Go.Proofs.Ytacjkbljokjdkaa.bit Go.Proofs.Ytacjkbljokjdkaa.bs
set_option linter.unusedVariables false
section
variable {w : World} {a : Option Addr} {n cap : Nat} {l : List Nat}
set_option maxRecDepth 100000 in
set_option maxHeartbeats 1600000 in
theorem searchQ (h : RL uv w a n cap l) (x : Nat) (bu bx : Nat) (hu : w.cell? ⟨bu, 0, none⟩ = some (.slice a n cap)) (hx : w.cell? ⟨bx, 0, none⟩ = some (uv x)) (i y : Nat) (hy : l[i]? = some y) :
    Calls Try.prog 121 #[.int .i64 (i : Int), .pointer (some ⟨bu, 0, none⟩), .pointer (some ⟨bx, 0, none⟩)] w fun e w' => e = .returned (.bool (decide (x ≤ y))) ∧ ∃ m, w' = w.drewN m := by
  have hi := (List.getElem?_eq_some_iff.1 hy).1
  rw [h.2] at hi
  have hi' : (i : Int) < (n : Int) := by omega
  have hi0 : (0 : Int) ≤ (i : Int) := by omega
  obtain ⟨b, off, ha, hb, hc⟩ := h.at (by omega)
  have c0 := hc i y hy
  subst ha
  unfold uv at hx c0
  clear h hc hy
  go_enter Try.func121, Try.ntmps121
  go_wp2_with fail
  go_quiet (fail)
  go_wp2_with fail
  go_ret
  exact ⟨rfl, _, rfl⟩
set_option maxRecDepth 100000 in
set_option maxHeartbeats 1600000 in
theorem sortSearch (h : RL uv w a n cap l) (hs : Asc l) (x : Nat) (hn : n ≤ 1000000) (bu bx : Nat) (hu : w.cell? ⟨bu, 0, none⟩ = some (.slice a n cap)) (hx : w.cell? ⟨bx, 0, none⟩ = some (uv x)) :
    Calls Try.prog 120 #[.int .i64 (n : Int), .func (Fn.func 121) #[] #[.pointer (some ⟨bu, 0, none⟩), .pointer (some ⟨bx, 0, none⟩)]] w (fun e w' => e = .returned (.int .i64 (at_ l x : Nat)) ∧ ∃ m, w' = w.drewN m) := by
  have HQ : Hid (∀ (m i y : Nat), l[i]? = some y → Calls Try.prog 121 #[.int .i64 (i : Int), .pointer (some ⟨bu, 0, none⟩), .pointer (some ⟨bx, 0, none⟩)] (w.drewN m) fun e w' => e = .returned (.bool (decide (x ≤ y))) ∧ ∃ k, w' = (w.drewN m).drewN k) :=
    Lib.hid (fun m i y hy => searchQ ⟨h.1.drewN m, h.2⟩ x bu bx hu hx i y hy)
  have HL := Lib.hid h.2
  have HS := Lib.hid hs
  clear h hu hx hs
  go_enter Try.func120, Try.ntmps120
  go_wp2_with fail
  go_loopw [5, 6] (fun i j wr => ∃ lo hi : Nat, lo ≤ hi ∧ hi ≤ n ∧ i = .int .i64 (lo : Int) ∧ j = .int .i64 (hi : Int) ∧ Hid ((∃ m, wr = w.drewN m) ∧ (∀ t y, t < lo → l[t]? = some y → y < x) ∧ ∀ t y, hi ≤ t → l[t]? = some y → x ≤ y)) (fun i j _ => (intOf j - intOf i).toNat)
  case atStart => exact ⟨0, n, Nat.zero_le _, Nat.le_refl _, rfl, rfl, Lib.hid ⟨⟨0, rfl⟩, fun t y ht => absurd ht (by omega), fun t y ht hy => by have := (List.getElem?_eq_some_iff.1 hy).1; have := HL.out; omega⟩⟩
  case round =>
    obtain ⟨lo, hi, hlh, hhn, rfl, rfl, HO⟩ := hrel
    obtain ⟨m, hm⟩ := HO.out.1
    subst hm
    have HO2 := Lib.hid HO.out.2
    clear HO
    by_cases hlt : lo < hi
    · obtain ⟨k, HK⟩ : ∃ k, Hid (k = (lo + hi) / 2) := ⟨_, Lib.hid rfl⟩
      have hk1 : lo ≤ k ∧ k < hi := by have := HK.out; omega
      obtain ⟨y, hy⟩ : ∃ y, l[k]? = some y := ⟨l[k]'(by have := HL.out; omega), List.getElem?_eq_getElem _⟩
      have HQQ := Lib.hid (HQ.out m k y hy)
      have HY := Lib.hid hy
      have hkd : ((lo : Int) + (hi : Int)) / 2 = (k : Int) := by have := HK.out; omega
      have hlt' : (lo : Int) < (hi : Int) := by omega
      clear hy
      by_cases hxy : x ≤ y
      · have HO3 : Hid ((∀ t y, t < lo → l[t]? = some y → y < x) ∧ ∀ t y, k ≤ t → l[t]? = some y → x ≤ y) := Lib.hid ⟨HO2.out.1, fun t z ht hz => by
          rcases Nat.lt_or_eq_of_le ht with h1 | h1
          · have := HS.out.get h1 HY.out hz; omega
          · subst h1; rw [HY.out] at hz; cases hz; exact hxy⟩
        have hd : decide (x ≤ y) = true := by simp [hxy]
        rw [hd] at HQQ
        clear hd hxy
        go_wp2_with (go_at_call 121; refine HQQ.out.mono ?_)
        rintro e w2 ⟨rfl, q, rfl⟩
        go_wp2_with fail
        go_roundw
        case rel => exact ⟨lo, k, by omega, by omega, rfl, rfl, Lib.hid ⟨⟨m + q, rfl⟩, HO3.out⟩⟩
        case measure => simp [intOf]; omega
      · have HO3 : Hid ((∀ t y, t < k + 1 → l[t]? = some y → y < x) ∧ ∀ t y, hi ≤ t → l[t]? = some y → x ≤ y) := Lib.hid ⟨fun t z ht hz => by
          rcases Nat.lt_or_eq_of_le (Nat.lt_succ_iff.1 ht) with h1 | h1
          · have := HS.out.get h1 hz HY.out; omega
          · subst h1; rw [HY.out] at hz; cases hz; omega, HO2.out.2⟩
        have hd : decide (x ≤ y) = false := by simp [hxy]
        rw [hd] at HQQ
        clear hd hxy
        go_wp2_with (go_at_call 121; refine HQQ.out.mono ?_)
        rintro e w2 ⟨rfl, q, rfl⟩
        go_wp2_with fail
        go_roundw
        case rel => exact ⟨k + 1, hi, by omega, by omega, by go_num, rfl, Lib.hid ⟨⟨m + q, rfl⟩, HO3.out⟩⟩
        case measure => simp [intOf]; omega
    · obtain rfl : lo = hi := by omega
      have hlt' : ¬ (lo : Int) < (lo : Int) := by omega
      have HE : Hid (at_ l x = lo) := Lib.hid (at_eq (by have := HL.out; omega) HO2.out.1 (fun y hy => HO2.out.2 lo y (Nat.le_refl _) hy))
      go_wp2_with fail
      go_ret
      exact ⟨by rw [HE.out]; rfl, _, rfl⟩
set_option maxRecDepth 100000 in
set_option maxHeartbeats 1600000 in
/-- the place of x -/
theorem searchU (h : RL uv w a n cap l) (hs : Asc l) (x : Nat) (hn : n ≤ 1000000) : Calls Try.prog 113 #[.slice a n cap, .int .u64 (x : Int)] w (FV w (.int .i64 (at_ l x : Nat))) := by
  have hS : Same w ((w.alloc (.cells #[.slice a n cap] 97)).alloc (.cells #[.int .u64 (x : Int)] 24)) := ((Only.refl _ _).alloc _).alloc _
  have HC := Lib.hid (sortSearch (h.still hS) hs x hn w.heap.size (w.heap.size + 1) (block_cell (((Only.refl (fun _ => False) _).alloc _).obj (heap_alloc_new w _) id) rfl) (block_cell (heap_alloc_new' _ _ _ (by simp)) rfl))
  have HS := Lib.hid hS
  obtain ⟨k, hk⟩ : ∃ k, at_ l x = k := ⟨_, rfl⟩
  have hkn : k ≤ n := by rw [← hk, ← h.2]; exact at_le l x
  rw [hk] at HC ⊢
  have hbd := h.bound
  clear h hs hS hk
  go_enter Try.func113, Try.ntmps113
  go_wp2_with (go_at_call 120; refine HC.out.mono ?_)
  rintro e w1 ⟨rfl, m, rfl⟩
  go_wp2_with fail
  go_ret
  exact ⟨rfl, HS.out.drewN _⟩
end
end Go.Proofs.Ytacjkbljokjdkaa.ba

/-
  spec.BSStep: the walk. Printed by a program of mine.
-/
import Derived.Test.YtgndpckcdageiaaBrRun0
import Derived.Test.YtgndpckcdageiaaBrDel
import Derived.Test.YtgndpckcdageiaaBsTwoS
import Derived.Test.YtgndpckcdageiaaBsSpecB
import Derived.BigQuiet
namespace Go.Proofs.Ytgndpckcdageiaa.bs
open Go.RowKit Go.Proofs.Ytgndpckcdageiaa.base Go.Proofs.Ytgndpckcdageiaa.heap Go.Proofs.Ytgndpckcdageiaa.bit
set_option linter.unusedVariables false
theorem retb {b : List Bool} {w w1 w' : World} {e : Ending} (hS : Same w w1) (h : RetBools b w1 e w') : RetBools b w e w' := by
  obtain ⟨a, cap, h1, h2, h3, h4⟩ := h
  exact ⟨a, cap, h1, h2, Only.trans hS h3 (fun _ _ f => f), fun k hk => Nat.le_trans hS.size (h4 k hk)⟩
theorem sPut0 (a0 : Option Addr) (cap0 : Nat) (b : List Bool) (f t : Nat) (w : World) (hrb : RB w a0 b.length cap0 b) (hn : b.length ≤ 100000) (ht : t ≤ 100000) (hf : f ≤ 100000) :
    Calls Try.prog 12 #[.slice a0 b.length cap0, .int .i64 (f : Int), .int .i64 (t : Int), .int .i64 0] w (RetBools (put b f t 0) w) := by
  by_cases h : f < t
  · rw [put_zero h]; exact bsPut0 a0 cap0 b f t w hrb (by omega) (by omega) (by omega) h
  · rw [put_none (by omega)]; exact bsPut_no a0 cap0 b f t 0 w hrb (by omega) (by omega)
theorem sPut1 (a0 : Option Addr) (cap0 : Nat) (b : List Bool) (f t : Nat) (w : World) (hrb : RB w a0 b.length cap0 b) (hn : b.length ≤ 100000) (ht : t ≤ 100000) (hf : f ≤ 100000) :
    Calls Try.prog 12 #[.slice a0 b.length cap0, .int .i64 (f : Int), .int .i64 (t : Int), .int .i64 1] w (RetBools (put b f t 1) w) := by
  by_cases h : f < t
  · rw [put_some h (by decide)]; exact bsPut1 a0 cap0 b f t w hrb (by omega) (by omega) (by omega) h
  · rw [put_none (by omega)]; exact bsPut_no a0 cap0 b f t 1 w hrb (by omega) (by omega)
theorem sPut2 (a0 : Option Addr) (cap0 : Nat) (b : List Bool) (f t : Nat) (w : World) (hrb : RB w a0 b.length cap0 b) (hn : b.length ≤ 100000) (ht : t ≤ 100000) (hf : f ≤ 100000) :
    Calls Try.prog 12 #[.slice a0 b.length cap0, .int .i64 (f : Int), .int .i64 (t : Int), .int .i64 2] w (RetBools (put b f t 2) w) := by
  by_cases h : f < t
  · rw [put_some h (by decide)]; exact bsPut2 a0 cap0 b f t w hrb (by omega) (by omega) (by omega) h
  · rw [put_none (by omega)]; exact bsPut_no a0 cap0 b f t 2 w hrb (by omega) (by omega)
/-- the places of a list's bits do not turn when bits that are not set are left away -/
theorem ones_cut (x y : List Bool) : ones (twoL (fun x y => x && !y) x y (max x.length y.length)) = ones (twoL (fun x y => x && !y) x y x.length) := by
  have h1 : ∀ z : List Bool, (ones z).Pairwise (· < ·) := fun z => List.Pairwise.filter _ List.pairwise_lt_range
  have h2 : ∀ i, i ∈ ones (twoL (fun x y => x && !y) x y (max x.length y.length)) ↔ i ∈ ones (twoL (fun x y => x && !y) x y x.length) := fun i => by
    rw [mem_ones, mem_ones, twoL_len, twoL_len, twoL_get, twoL_get]
    by_cases h : i < x.length
    · simp [h]; omega
    · have e : x.getD i false = false := by simp [Nat.le_of_not_lt h]
      rw [e]; simp
  have ha := (h1 (twoL (fun x y => x && !y) x y (max x.length y.length)))
  have hb := (h1 (twoL (fun x y => x && !y) x y x.length))
  exact List.Perm.eq_of_pairwise (fun a b _ _ h3 h4 => absurd h3 (by omega)) ha hb ((List.perm_ext_iff_of_nodup (ha.imp (fun h => Nat.ne_of_lt h)) (hb.imp (fun h => Nat.ne_of_lt h))).2 h2)
theorem copy_fin {x : List Bool} {N : Nat} {w W1 w1 : World} {a1 : Option Addr} {cap1 : Nat} (hx : x.length = N) (hS : Same w W1) (hG : Grew 4 1 (W1.alloc (.cells #[] 4)) w1 (some ⟨W1.heap.size, 0, none⟩) a1 N N 0 cap1 (B x)) : RetBools x w (.returned (.slice a1 N cap1)) w1 := by
  refine ⟨a1, cap1, by rw [hx], ⟨by rw [hx]; exact hG.own.rd, rfl⟩, Only.trans hS (((Only.refl _ W1).alloc _).trans hG.only (fun j hj h => by have : W1.heap.size = j := h; omega)) (fun _ _ f => f), fun j hj => ?_⟩
  have := hS.size
  rcases hG.fresh j hj with h | h
  · have : W1.heap.size = j := h; omega
  · simp at h; omega
set_option maxRecDepth 100000 in
set_option maxHeartbeats 3200000 in
theorem bsStep (a1 a2 : Option Addr) (cap1 cap2 : Nat) (x y : List Bool) (op on by_ A Bb : Nat) (w : World) (h1 : RB w a1 x.length cap1 x) (h2 : RB w a2 y.length cap2 y) (hx : x.length ≤ 1000) (hy : y.length ≤ 1000) (hop : OpK op) (hA : A < 600) (hB : Bb < 600) (hp : op = 8 ∨ op = 9 ∨ op = 10 → A < x.length) :
    Calls Try.prog 8 #[.slice a1 x.length cap1, .slice a2 y.length cap2, .agg #[.int .i64 (op : Int), .int .i64 (on : Int), .int .i64 (by_ : Int), .int .u64 (A : Int), .int .u64 (Bb : Int)]] w (RetBools (nextL op x y A Bb) w) := by
  have HX := Lib.hid h1
  have HY := Lib.hid h2
  have HP := Lib.hid hp
  have bx := h1.1.bound
  have by2 := h2.1.bound
  obtain ⟨n, hn⟩ : ∃ n, x.length = n := ⟨_, rfl⟩
  obtain ⟨m, hm⟩ : ∃ m, y.length = m := ⟨_, rfl⟩
  rw [hn] at HX HP bx hx ⊢
  rw [hm] at HY by2 hy ⊢
  have e1 : IntKind.i64.wrap (A : Int) = (A : Int) := IntWalk.i64_in _ (by omega)
  have e2 : IntKind.i64.wrap (Bb : Int) = (Bb : Int) := IntWalk.i64_in _ (by omega)
  have HNM := Lib.hid (And.intro hn hm)
  clear h1 h2 hp hn hm
  go_enter Try.func8, Try.ntmps8
  go_wp2_with fail
  obtain ⟨W0, hW0⟩ : ∃ W0, w.alloc (.cells #[.int .i64 (op : Int), .int .i64 (on : Int), .int .i64 (by_ : Int), .int .u64 (A : Int), .int .u64 (Bb : Int)] 35) = W0 := ⟨_, rfl⟩
  obtain ⟨g, hg⟩ : ∃ g, w.heap.size = g := ⟨_, rfl⟩
  have HW0 : Hid (Same w W0 ∧ W0.heap[g]? = some (.cells #[.int .i64 (op : Int), .int .i64 (on : Int), .int .i64 (by_ : Int), .int .u64 (A : Int), .int .u64 (Bb : Int)] 35 (0, 0))) := Lib.hid (by
    rw [← hW0, ← hg]
    exact ⟨(Only.refl _ _).alloc _, heap_alloc_new _ _⟩)
  rw [hW0, hg]
  have c0 : W0.cell? ⟨g, 0, none⟩ = some (.int .i64 (op : Int)) := block_cell HW0.out.2 rfl
  have c3 : W0.cell? ⟨g, 3, none⟩ = some (.int .u64 (A : Int)) := block_cell HW0.out.2 rfl
  have c4 : W0.cell? ⟨g, 4, none⟩ = some (.int .u64 (Bb : Int)) := block_cell HW0.out.2 rfl
  clear hW0 hg
  go_quiet (fail)
  obtain ⟨W1, hW1⟩ : ∃ W1, W0.drewN nq = W1 := ⟨_, rfl⟩
  have HW1 : Hid (Same w W1 ∧ W1.heap[g]? = some (.cells #[.int .i64 (op : Int), .int .i64 (on : Int), .int .i64 (by_ : Int), .int .u64 (A : Int), .int .u64 (Bb : Int)] 35 (0, 0))) := Lib.hid (by
    rw [← hW1]
    exact ⟨HW0.out.1.drewN _, HW0.out.2⟩)
  rw [hW1]
  have d0 : W1.cell? ⟨g, 0, none⟩ = some (.int .i64 (op : Int)) := block_cell HW1.out.2 rfl
  have HRX : Hid (∀ wx, Same W1 wx → RB wx a1 n cap1 x) := Lib.hid (fun wx hS => HX.out.keep (Only.trans HW1.out.1 hS (fun _ _ f => f)) (fun _ _ => id))
  have HRY : Hid (∀ wx, Same W1 wx → RB wx a2 m cap2 y) := Lib.hid (fun wx hS => HY.out.keep (Only.trans HW1.out.1 hS (fun _ _ f => f)) (fun _ _ => id))
  clear hW1 HW0 c0 c3 c4 HX HY
  unfold OpK at hop
  rcases hop with rfl | rfl | rfl | rfl | rfl | rfl | rfl | rfl | rfl | rfl | rfl | rfl | rfl | rfl | rfl
  · obtain ⟨A1, HA1⟩ : ∃ A1, Hid (A + 1 = A1) := ⟨_, Lib.hid rfl⟩
    have hA1w : IntKind.i64.wrap ((A : Int) + 1) = (A1 : Int) := by have := HA1.out; rw [IntWalk.i64_in _ (by omega)]; omega
    have hA1b : A1 ≤ 600 := by have := HA1.out; omega
    have e3 : nextL 1 x y A Bb = put x A A1 1 := by rw [← HA1.out]; rfl
    have HE3 := Lib.hid e3
    clear e3
    have HK : Hid (Calls Try.prog 12 #[.slice a1 n cap1, .int .i64 (A : Int), .int .i64 (A1 : Int), .int .i64 1] W1 (RetBools (put x A A1 1) W1)) := Lib.hid (by
      have h := sPut1 a1 cap1 x A A1 W1 (by rw [HNM.out.1]; exact HRX.out _ (Only.refl _ _)) (by rw [HNM.out.1]; omega) (by omega) (by omega)
      rw [HNM.out.1] at h
      exact h)
    go_wp2_with (go_at_call 12; refine HK.out.mono ?_)
    intro e w3 hr
    have HR := Lib.hid (retb HW1.out.1 hr)
    obtain ⟨ra, rc, rfl, -⟩ := hr
    clear HK
    go_wp2_with fail
    go_ret
    rw [HE3.out]
    exact HR.out
  · obtain ⟨A1, HA1⟩ : ∃ A1, Hid (A + 1 = A1) := ⟨_, Lib.hid rfl⟩
    have hA1w : IntKind.i64.wrap ((A : Int) + 1) = (A1 : Int) := by have := HA1.out; rw [IntWalk.i64_in _ (by omega)]; omega
    have hA1b : A1 ≤ 600 := by have := HA1.out; omega
    have e3 : nextL 2 x y A Bb = put x A A1 0 := by rw [← HA1.out]; rfl
    have HE3 := Lib.hid e3
    clear e3
    have HK : Hid (Calls Try.prog 12 #[.slice a1 n cap1, .int .i64 (A : Int), .int .i64 (A1 : Int), .int .i64 0] W1 (RetBools (put x A A1 0) W1)) := Lib.hid (by
      have h := sPut0 a1 cap1 x A A1 W1 (by rw [HNM.out.1]; exact HRX.out _ (Only.refl _ _)) (by rw [HNM.out.1]; omega) (by omega) (by omega)
      rw [HNM.out.1] at h
      exact h)
    go_wp2_with (go_at_call 12; refine HK.out.mono ?_)
    intro e w3 hr
    have HR := Lib.hid (retb HW1.out.1 hr)
    obtain ⟨ra, rc, rfl, -⟩ := hr
    clear HK
    go_wp2_with fail
    go_ret
    rw [HE3.out]
    exact HR.out
  · obtain ⟨A1, HA1⟩ : ∃ A1, Hid (A + 1 = A1) := ⟨_, Lib.hid rfl⟩
    have hA1w : IntKind.i64.wrap ((A : Int) + 1) = (A1 : Int) := by have := HA1.out; rw [IntWalk.i64_in _ (by omega)]; omega
    have hA1b : A1 ≤ 600 := by have := HA1.out; omega
    have e3 : nextL 3 x y A Bb = put x A A1 2 := by rw [← HA1.out]; rfl
    have HE3 := Lib.hid e3
    clear e3
    have HK : Hid (Calls Try.prog 12 #[.slice a1 n cap1, .int .i64 (A : Int), .int .i64 (A1 : Int), .int .i64 2] W1 (RetBools (put x A A1 2) W1)) := Lib.hid (by
      have h := sPut2 a1 cap1 x A A1 W1 (by rw [HNM.out.1]; exact HRX.out _ (Only.refl _ _)) (by rw [HNM.out.1]; omega) (by omega) (by omega)
      rw [HNM.out.1] at h
      exact h)
    go_wp2_with (go_at_call 12; refine HK.out.mono ?_)
    intro e w3 hr
    have HR := Lib.hid (retb HW1.out.1 hr)
    obtain ⟨ra, rc, rfl, -⟩ := hr
    clear HK
    go_wp2_with fail
    go_ret
    rw [HE3.out]
    exact HR.out
  · have e3 : nextL 4 x y A Bb = put x A Bb 1 := rfl
    have HE3 := Lib.hid e3
    clear e3
    have HK : Hid (Calls Try.prog 12 #[.slice a1 n cap1, .int .i64 (A : Int), .int .i64 (Bb : Int), .int .i64 1] W1 (RetBools (put x A Bb 1) W1)) := Lib.hid (by
      have h := sPut1 a1 cap1 x A Bb W1 (by rw [HNM.out.1]; exact HRX.out _ (Only.refl _ _)) (by rw [HNM.out.1]; omega) (by omega) (by omega)
      rw [HNM.out.1] at h
      exact h)
    go_wp2_with (go_at_call 12; refine HK.out.mono ?_)
    intro e w3 hr
    have HR := Lib.hid (retb HW1.out.1 hr)
    obtain ⟨ra, rc, rfl, -⟩ := hr
    clear HK
    go_wp2_with fail
    go_ret
    rw [HE3.out]
    exact HR.out
  · have e3 : nextL 5 x y A Bb = put x A Bb 2 := rfl
    have HE3 := Lib.hid e3
    clear e3
    have HK : Hid (Calls Try.prog 12 #[.slice a1 n cap1, .int .i64 (A : Int), .int .i64 (Bb : Int), .int .i64 2] W1 (RetBools (put x A Bb 2) W1)) := Lib.hid (by
      have h := sPut2 a1 cap1 x A Bb W1 (by rw [HNM.out.1]; exact HRX.out _ (Only.refl _ _)) (by rw [HNM.out.1]; omega) (by omega) (by omega)
      rw [HNM.out.1] at h
      exact h)
    go_wp2_with (go_at_call 12; refine HK.out.mono ?_)
    intro e w3 hr
    have HR := Lib.hid (retb HW1.out.1 hr)
    obtain ⟨ra, rc, rfl, -⟩ := hr
    clear HK
    go_wp2_with fail
    go_ret
    rw [HE3.out]
    exact HR.out
  · have e3 : nextL 6 x y A Bb = put x 0 n 0 := by rw [← HNM.out.1]; rfl
    have HE3 := Lib.hid e3
    clear e3
    have HK : Hid (Calls Try.prog 12 #[.slice a1 n cap1, .int .i64 0, .int .i64 (n : Int), .int .i64 0] W1 (RetBools (put x 0 n 0) W1)) := Lib.hid (by
      have h := sPut0 a1 cap1 x 0 n W1 (by rw [HNM.out.1]; exact HRX.out _ (Only.refl _ _)) (by rw [HNM.out.1]; omega) (by omega) (by omega)
      rw [HNM.out.1] at h
      exact h)
    go_wp2_with (go_at_call 12; refine HK.out.mono ?_)
    intro e w3 hr
    have HR := Lib.hid (retb HW1.out.1 hr)
    obtain ⟨ra, rc, rfl, -⟩ := hr
    clear HK
    go_wp2_with fail
    go_ret
    rw [HE3.out]
    exact HR.out
  · have e3 : nextL 7 x y A Bb = put x 0 n 1 := by rw [← HNM.out.1]; rfl
    have HE3 := Lib.hid e3
    clear e3
    have HK : Hid (Calls Try.prog 12 #[.slice a1 n cap1, .int .i64 0, .int .i64 (n : Int), .int .i64 1] W1 (RetBools (put x 0 n 1) W1)) := Lib.hid (by
      have h := sPut1 a1 cap1 x 0 n W1 (by rw [HNM.out.1]; exact HRX.out _ (Only.refl _ _)) (by rw [HNM.out.1]; omega) (by omega) (by omega)
      rw [HNM.out.1] at h
      exact h)
    go_wp2_with (go_at_call 12; refine HK.out.mono ?_)
    intro e w3 hr
    have HR := Lib.hid (retb HW1.out.1 hr)
    obtain ⟨ra, rc, rfl, -⟩ := hr
    clear HK
    go_wp2_with fail
    go_ret
    rw [HE3.out]
    exact HR.out
  · have e3 : nextL 8 x y A Bb = insertL x A := rfl
    have HE3 := Lib.hid e3
    clear e3
    have HK : Hid (Calls Try.prog 13 #[.slice a1 n cap1, .int .i64 (A : Int)] W1 (RetBools (insertL x A) W1)) := Lib.hid (by
      have h := bsInsert a1 cap1 x A W1 (by rw [HNM.out.1]; exact HRX.out _ (Only.refl _ _)) (by rw [HNM.out.1]; omega) (by rw [HNM.out.1]; exact HP.out (by decide))
      rw [HNM.out.1] at h
      exact h)
    go_wp2_with (go_at_call 13; refine HK.out.mono ?_)
    intro e w3 hr
    have HR := Lib.hid (retb HW1.out.1 hr)
    obtain ⟨ra, rc, rfl, -⟩ := hr
    clear HK
    go_wp2_with fail
    go_ret
    rw [HE3.out]
    exact HR.out
  · have e3 : nextL 9 x y A Bb = deleteL x A := rfl
    have HE3 := Lib.hid e3
    clear e3
    have HK : Hid (Calls Try.prog 14 #[.slice a1 n cap1, .int .i64 (A : Int)] W1 (RetBools (deleteL x A) W1)) := Lib.hid (by
      have h := bsDelete a1 cap1 x A W1 (by rw [HNM.out.1]; exact HRX.out _ (Only.refl _ _)) (by rw [HNM.out.1]; omega) (by rw [HNM.out.1]; exact HP.out (by decide))
      rw [HNM.out.1] at h
      exact h)
    go_wp2_with (go_at_call 14; refine HK.out.mono ?_)
    intro e w3 hr
    have HR := Lib.hid (retb HW1.out.1 hr)
    obtain ⟨ra, rc, rfl, -⟩ := hr
    clear HK
    go_wp2_with fail
    go_ret
    rw [HE3.out]
    exact HR.out
  · obtain ⟨A1, HA1⟩ : ∃ A1, Hid (A + 1 = A1) := ⟨_, Lib.hid rfl⟩
    have hA1w : IntKind.i64.wrap ((A : Int) + 1) = (A1 : Int) := by have := HA1.out; rw [IntWalk.i64_in _ (by omega)]; omega
    have hA1b : A1 ≤ 600 := by have := HA1.out; omega
    have hAn := HP.out (by decide)
    have e3 : nextL 10 x y A Bb = x.take A1 := by rw [← HA1.out]; rfl
    have HE3 := Lib.hid e3
    clear e3
    have hA1n : A1 ≤ n := by have := HA1.out; omega
    have z1 : (0 : Int) ≤ (A1 : Int) := by omega
    have z2 : (A1 : Int) ≤ (cap1 : Int) := by omega
    obtain ⟨xb, xo, hxa, -, -⟩ := (HRX.out W1 (Only.refl _ _)).at (by omega)
    subst hxa
    have HLT : Hid ((x.take A1).length = A1) := Lib.hid (by rw [List.length_take, HNM.out.1]; omega)
    go_wp2_with (at_builtin; refine wpList_append A1 (B (x.take A1)) rfl _ _ _ _ rfl slBool rfl (own_empty _ (default : World) _ _ (heap_alloc_new' _ _ _ rfl)) rfl (Rd.src (RB.firstI (HRX.out _ ((Only.refl _ _).alloc _)) A1 hA1n) Try.underlying29) (Nat.zero_add _) rfl (by unfold maxLen; omega) (by omega) ?_)
    intro ra rc w3 hG
    have HR := Lib.hid (copy_fin HLT.out HW1.out.1 hG)
    clear hG
    go_wp2_with fail
    go_ret
    rw [HE3.out]
    exact HR.out
  · obtain ⟨M, HM⟩ : ∃ M, Hid (max n m = M) := ⟨_, Lib.hid rfl⟩
    have hMb : M ≤ 1000 := by have := HM.out; omega
    obtain ⟨d, HD⟩ : ∃ d, Hid (twoL (fun x y => x || y) x y M = d) := ⟨_, Lib.hid rfl⟩
    have e3 : nextL 11 x y A Bb = d := by rw [← HD.out, ← HM.out, ← HNM.out.1, ← HNM.out.2]; rfl
    have HDL : Hid (d.length = M) := Lib.hid (by rw [← HD.out, twoL_len])
    have HON : Hid (ones (twoL (fun x y => x || y) x y (max x.length y.length)) = ones d) := Lib.hid (by rw [HNM.out.1, HNM.out.2, HM.out, HD.out])
    have HE3 := Lib.hid e3
    clear e3
    obtain ⟨k, HK0⟩ : ∃ k, Hid ((ones d).length = k) := ⟨_, Lib.hid rfl⟩
    have HTW : Hid (∀ wx, Same W1 wx → Calls Try.prog 15 #[.slice a1 n cap1, .slice a2 m cap2, .int .i64 0] wx (fun e w' => ∃ na nc, e = .returned (.slice na k nc) ∧ RU w' na k nc (ones d) ∧ Same W1 w')) := Lib.hid (fun wx hS => by
      have h := bsTwo0 a1 a2 cap1 cap2 x y wx (by rw [HNM.out.1]; exact HRX.out _ hS) (by rw [HNM.out.2]; exact HRY.out _ hS) (by rw [HNM.out.1]; omega) (by rw [HNM.out.2]; omega)
      rw [HON.out, HNM.out.1, HNM.out.2] at h
      refine h.mono ?_
      rintro e w' ⟨na, nc, h3, h4, h5, h6⟩
      rw [HK0.out] at h3 h4
      exact ⟨na, nc, h3, h4, Only.trans hS h5 (fun _ _ f => f)⟩)
    have d5 : (W1.alloc (.cells #[.int .i64 0, .int .i64 2, .int .i64 3] 3)).cell? ⟨W1.heap.size, 0, none⟩ = some (.int .i64 0) := block_cell (heap_alloc_new _ _) rfl
    have d6 : (W1.alloc (.cells #[.int .i64 0, .int .i64 2, .int .i64 3] 3)).cell? ⟨g, 0, none⟩ = some (.int .i64 11) := block_cell (((Only.refl (fun _ => False) W1).alloc _).obj HW1.out.2 id) rfl
    have d0' : W1.cell? ⟨g, 0, none⟩ = some (.int .i64 11) := d0
    clear d0
    go_wp2_with (go_at_call 15; refine (HTW.out _ ((Only.refl _ _).alloc _)).mono ?_)
    rintro e w3 ⟨na, nc, rfl, hru, hS3⟩
    have d7 : w3.cell? ⟨g, 0, none⟩ = some (.int .i64 11) := block_cell (hS3.obj HW1.out.2 id) rfl
    have HS3 := Lib.hid (Only.trans HW1.out.1 hS3 (fun _ _ f => f))
    have HRU := Lib.hid hru
    clear hru hS3 HTW
    by_cases hnm : n < m
    · have hnm1 : (n : Int) < (m : Int) := by omega
      have hnm2 : ¬ (m : Int) ≤ (n : Int) := by omega
      have hnm3 : (n : Int) ≤ (m : Int) := by omega
      have HDN : Hid (d.length = m) := Lib.hid (by rw [HDL.out]; have := HM.out; omega)
      have HBB : Hid (Calls Try.prog 6 #[.agg #[.int .u64 (m : Int), .slice na k nc]] w3 (RetBools d w3)) := Lib.hid (bsBools _ d w3 ⟨na, k, nc, by rw [HDN.out], HRU.out⟩ (by rw [HDN.out]; omega))
      have wn : IntKind.u64.wrap (m : Int) = (m : Int) := by rw [IntKind.wrap_u64]; omega
      clear hMb
      go_wp2_with (go_at_call 6; refine HBB.out.mono ?_)
      intro e w4 hr
      have HR := Lib.hid (retb HS3.out hr)
      obtain ⟨ra, rc, rfl, -⟩ := hr
      clear HBB
      go_wp2_with fail
      go_ret
      rw [HE3.out]
      exact HR.out
    · have hnm1 : ¬ (n : Int) < (m : Int) := by omega
      have hnm2 : (m : Int) ≤ (n : Int) := by omega
      have HDN : Hid (d.length = n) := Lib.hid (by rw [HDL.out]; have := HM.out; omega)
      have HBB : Hid (Calls Try.prog 6 #[.agg #[.int .u64 (n : Int), .slice na k nc]] w3 (RetBools d w3)) := Lib.hid (bsBools _ d w3 ⟨na, k, nc, by rw [HDN.out], HRU.out⟩ (by rw [HDN.out]; omega))
      have wn : IntKind.u64.wrap (n : Int) = (n : Int) := by rw [IntKind.wrap_u64]; omega
      clear hMb
      go_wp2_with (go_at_call 6; refine HBB.out.mono ?_)
      intro e w4 hr
      have HR := Lib.hid (retb HS3.out hr)
      obtain ⟨ra, rc, rfl, -⟩ := hr
      clear HBB
      go_wp2_with fail
      go_ret
      rw [HE3.out]
      exact HR.out
  · obtain ⟨M, HM⟩ : ∃ M, Hid (max n m = M) := ⟨_, Lib.hid rfl⟩
    have hMb : M ≤ 1000 := by have := HM.out; omega
    obtain ⟨d, HD⟩ : ∃ d, Hid (twoL (fun x y => x && !y) x y n = d) := ⟨_, Lib.hid rfl⟩
    have e3 : nextL 12 x y A Bb = d := by rw [← HD.out, ← HNM.out.1]; rfl
    have HDL : Hid (d.length = n) := Lib.hid (by rw [← HD.out, twoL_len])
    have HON : Hid (ones (twoL (fun x y => x && !y) x y (max x.length y.length)) = ones d) := Lib.hid (by rw [ones_cut, HNM.out.1, HD.out])
    have HE3 := Lib.hid e3
    clear e3
    obtain ⟨k, HK0⟩ : ∃ k, Hid ((ones d).length = k) := ⟨_, Lib.hid rfl⟩
    have HTW : Hid (∀ wx, Same W1 wx → Calls Try.prog 15 #[.slice a1 n cap1, .slice a2 m cap2, .int .i64 2] wx (fun e w' => ∃ na nc, e = .returned (.slice na k nc) ∧ RU w' na k nc (ones d) ∧ Same W1 w')) := Lib.hid (fun wx hS => by
      have h := bsTwo2 a1 a2 cap1 cap2 x y wx (by rw [HNM.out.1]; exact HRX.out _ hS) (by rw [HNM.out.2]; exact HRY.out _ hS) (by rw [HNM.out.1]; omega) (by rw [HNM.out.2]; omega)
      rw [HON.out, HNM.out.1, HNM.out.2] at h
      refine h.mono ?_
      rintro e w' ⟨na, nc, h3, h4, h5, h6⟩
      rw [HK0.out] at h3 h4
      exact ⟨na, nc, h3, h4, Only.trans hS h5 (fun _ _ f => f)⟩)
    have d5 : (W1.alloc (.cells #[.int .i64 0, .int .i64 2, .int .i64 3] 3)).cell? ⟨W1.heap.size, 1, none⟩ = some (.int .i64 2) := block_cell (heap_alloc_new _ _) rfl
    have d6 : (W1.alloc (.cells #[.int .i64 0, .int .i64 2, .int .i64 3] 3)).cell? ⟨g, 0, none⟩ = some (.int .i64 12) := block_cell (((Only.refl (fun _ => False) W1).alloc _).obj HW1.out.2 id) rfl
    have d0' : W1.cell? ⟨g, 0, none⟩ = some (.int .i64 12) := d0
    clear d0
    go_wp2_with (go_at_call 15; refine (HTW.out _ ((Only.refl _ _).alloc _)).mono ?_)
    rintro e w3 ⟨na, nc, rfl, hru, hS3⟩
    have d7 : w3.cell? ⟨g, 0, none⟩ = some (.int .i64 12) := block_cell (hS3.obj HW1.out.2 id) rfl
    have HS3 := Lib.hid (Only.trans HW1.out.1 hS3 (fun _ _ f => f))
    have HRU := Lib.hid hru
    clear hru hS3 HTW
    have HDN : Hid (d.length = n) := Lib.hid (by rw [HDL.out])
    have HBB : Hid (Calls Try.prog 6 #[.agg #[.int .u64 (n : Int), .slice na k nc]] w3 (RetBools d w3)) := Lib.hid (bsBools _ d w3 ⟨na, k, nc, by rw [HDN.out], HRU.out⟩ (by rw [HDN.out]; omega))
    have wn : IntKind.u64.wrap (n : Int) = (n : Int) := by rw [IntKind.wrap_u64]; omega
    clear hMb
    go_wp2_with (go_at_call 6; refine HBB.out.mono ?_)
    intro e w4 hr
    have HR := Lib.hid (retb HS3.out hr)
    obtain ⟨ra, rc, rfl, -⟩ := hr
    clear HBB
    go_wp2_with fail
    go_ret
    rw [HE3.out]
    exact HR.out
  · obtain ⟨M, HM⟩ : ∃ M, Hid (max n m = M) := ⟨_, Lib.hid rfl⟩
    have hMb : M ≤ 1000 := by have := HM.out; omega
    obtain ⟨d, HD⟩ : ∃ d, Hid (twoL (fun x y => x ^^ y) x y M = d) := ⟨_, Lib.hid rfl⟩
    have e3 : nextL 13 x y A Bb = d := by rw [← HD.out, ← HM.out, ← HNM.out.1, ← HNM.out.2]; rfl
    have HDL : Hid (d.length = M) := Lib.hid (by rw [← HD.out, twoL_len])
    have HON : Hid (ones (twoL (fun x y => x ^^ y) x y (max x.length y.length)) = ones d) := Lib.hid (by rw [HNM.out.1, HNM.out.2, HM.out, HD.out])
    have HE3 := Lib.hid e3
    clear e3
    obtain ⟨k, HK0⟩ : ∃ k, Hid ((ones d).length = k) := ⟨_, Lib.hid rfl⟩
    have HTW : Hid (∀ wx, Same W1 wx → Calls Try.prog 15 #[.slice a1 n cap1, .slice a2 m cap2, .int .i64 3] wx (fun e w' => ∃ na nc, e = .returned (.slice na k nc) ∧ RU w' na k nc (ones d) ∧ Same W1 w')) := Lib.hid (fun wx hS => by
      have h := bsTwo3 a1 a2 cap1 cap2 x y wx (by rw [HNM.out.1]; exact HRX.out _ hS) (by rw [HNM.out.2]; exact HRY.out _ hS) (by rw [HNM.out.1]; omega) (by rw [HNM.out.2]; omega)
      rw [HON.out, HNM.out.1, HNM.out.2] at h
      refine h.mono ?_
      rintro e w' ⟨na, nc, h3, h4, h5, h6⟩
      rw [HK0.out] at h3 h4
      exact ⟨na, nc, h3, h4, Only.trans hS h5 (fun _ _ f => f)⟩)
    have d5 : (W1.alloc (.cells #[.int .i64 0, .int .i64 2, .int .i64 3] 3)).cell? ⟨W1.heap.size, 2, none⟩ = some (.int .i64 3) := block_cell (heap_alloc_new _ _) rfl
    have d6 : (W1.alloc (.cells #[.int .i64 0, .int .i64 2, .int .i64 3] 3)).cell? ⟨g, 0, none⟩ = some (.int .i64 13) := block_cell (((Only.refl (fun _ => False) W1).alloc _).obj HW1.out.2 id) rfl
    have d0' : W1.cell? ⟨g, 0, none⟩ = some (.int .i64 13) := d0
    clear d0
    go_wp2_with (go_at_call 15; refine (HTW.out _ ((Only.refl _ _).alloc _)).mono ?_)
    rintro e w3 ⟨na, nc, rfl, hru, hS3⟩
    have d7 : w3.cell? ⟨g, 0, none⟩ = some (.int .i64 13) := block_cell (hS3.obj HW1.out.2 id) rfl
    have HS3 := Lib.hid (Only.trans HW1.out.1 hS3 (fun _ _ f => f))
    have HRU := Lib.hid hru
    clear hru hS3 HTW
    by_cases hnm : n < m
    · have hnm1 : (n : Int) < (m : Int) := by omega
      have hnm2 : ¬ (m : Int) ≤ (n : Int) := by omega
      have hnm3 : (n : Int) ≤ (m : Int) := by omega
      have HDN : Hid (d.length = m) := Lib.hid (by rw [HDL.out]; have := HM.out; omega)
      have HBB : Hid (Calls Try.prog 6 #[.agg #[.int .u64 (m : Int), .slice na k nc]] w3 (RetBools d w3)) := Lib.hid (bsBools _ d w3 ⟨na, k, nc, by rw [HDN.out], HRU.out⟩ (by rw [HDN.out]; omega))
      have wn : IntKind.u64.wrap (m : Int) = (m : Int) := by rw [IntKind.wrap_u64]; omega
      clear hMb
      go_wp2_with (go_at_call 6; refine HBB.out.mono ?_)
      intro e w4 hr
      have HR := Lib.hid (retb HS3.out hr)
      obtain ⟨ra, rc, rfl, -⟩ := hr
      clear HBB
      go_wp2_with fail
      go_ret
      rw [HE3.out]
      exact HR.out
    · have hnm1 : ¬ (n : Int) < (m : Int) := by omega
      have hnm2 : (m : Int) ≤ (n : Int) := by omega
      have HDN : Hid (d.length = n) := Lib.hid (by rw [HDL.out]; have := HM.out; omega)
      have HBB : Hid (Calls Try.prog 6 #[.agg #[.int .u64 (n : Int), .slice na k nc]] w3 (RetBools d w3)) := Lib.hid (bsBools _ d w3 ⟨na, k, nc, by rw [HDN.out], HRU.out⟩ (by rw [HDN.out]; omega))
      have wn : IntKind.u64.wrap (n : Int) = (n : Int) := by rw [IntKind.wrap_u64]; omega
      clear hMb
      go_wp2_with (go_at_call 6; refine HBB.out.mono ?_)
      intro e w4 hr
      have HR := Lib.hid (retb HS3.out hr)
      obtain ⟨ra, rc, rfl, -⟩ := hr
      clear HBB
      go_wp2_with fail
      go_ret
      rw [HE3.out]
      exact HR.out
  · have e3 : nextL 14 x y A Bb = x := rfl
    have HE3 := Lib.hid e3
    clear e3
    go_wp2_with (at_builtin; refine wpList_append n (B x) rfl _ _ _ _ rfl slBool rfl (own_empty _ (default : World) _ _ (heap_alloc_new' _ _ _ rfl)) rfl (Rd.src (HRX.out _ ((Only.refl _ _).alloc _)).1 Try.underlying29) (Nat.zero_add _) rfl (by unfold maxLen; omega) (by omega) ?_)
    intro ra rc w3 hG
    have HR := Lib.hid (copy_fin HNM.out.1 HW1.out.1 hG)
    clear hG
    go_wp2_with fail
    go_ret
    rw [HE3.out]
    exact HR.out
  · have e3 : nextL 15 x y A Bb = put x 0 n 2 := by rw [← HNM.out.1]; rfl
    have HE3 := Lib.hid e3
    clear e3
    have HK : Hid (Calls Try.prog 12 #[.slice a1 n cap1, .int .i64 0, .int .i64 (n : Int), .int .i64 2] W1 (RetBools (put x 0 n 2) W1)) := Lib.hid (by
      have h := sPut2 a1 cap1 x 0 n W1 (by rw [HNM.out.1]; exact HRX.out _ (Only.refl _ _)) (by rw [HNM.out.1]; omega) (by omega) (by omega)
      rw [HNM.out.1] at h
      exact h)
    go_wp2_with (go_at_call 12; refine HK.out.mono ?_)
    intro e w3 hr
    have HR := Lib.hid (retb HW1.out.1 hr)
    obtain ⟨ra, rc, rfl, -⟩ := hr
    clear HK
    go_wp2_with fail
    go_ret
    rw [HE3.out]
    exact HR.out
end Go.Proofs.Ytgndpckcdageiaa.bs

/-
  The hash whole: bmix, sum256, baseHashes: the numbers hang on the bytes alone.
-/
import Derived.Test.YtpiajkabikbdnaaMurSumA
import Derived.Test.YtpiajkabikbdnaaMurSumB
import Derived.Test.YtpiajkabikbdnaaMurSumC
import Derived.Test.YtpiajkabikbdnaaMurSumD
namespace Go.Proofs.Ytpiajkabikbdnaa.bs
open Go.RowKit Go.Proofs.Ytpiajkabikbdnaa.base Go.Proofs.Ytpiajkabikbdnaa.heap Go.Proofs.Ytpiajkabikbdnaa.bit
set_option linter.unusedVariables false

theorem sumAll (pad : Bool) (t : Nat) (ht : t < 16) (hp : pad = true → t < 15) : SumAt pad t := by
  cases pad
  · match t, ht with
    | 0, _ => exact sum_false_0
    | 1, _ => exact sum_false_1
    | 2, _ => exact sum_false_2
    | 3, _ => exact sum_false_3
    | 4, _ => exact sum_false_4
    | 5, _ => exact sum_false_5
    | 6, _ => exact sum_false_6
    | 7, _ => exact sum_false_7
    | 8, _ => exact sum_false_8
    | 9, _ => exact sum_false_9
    | 10, _ => exact sum_false_10
    | 11, _ => exact sum_false_11
    | 12, _ => exact sum_false_12
    | 13, _ => exact sum_false_13
    | 14, _ => exact sum_false_14
    | 15, _ => exact sum_false_15
    | n + 16, h => exact absurd h (by omega)
  · match t, hp rfl with
    | 0, _ => exact sum_true_0
    | 1, _ => exact sum_true_1
    | 2, _ => exact sum_true_2
    | 3, _ => exact sum_true_3
    | 4, _ => exact sum_true_4
    | 5, _ => exact sum_true_5
    | 6, _ => exact sum_true_6
    | 7, _ => exact sum_true_7
    | 8, _ => exact sum_true_8
    | 9, _ => exact sum_true_9
    | 10, _ => exact sum_true_10
    | 11, _ => exact sum_true_11
    | 12, _ => exact sum_true_12
    | 13, _ => exact sum_true_13
    | 14, _ => exact sum_true_14
    | n + 15, h => exact absurd h (by omega)

/-- sum128, whole -/
theorem sum128 : ∃ f : Bool × (Int × Int) × Int × List Nat → Int × Int, ∀ pad h len l w p a t cap, t < 16 → (pad = true → t < 15) → D w p h → RY w a t cap l →
    Calls Try.prog 69 #[.pointer (some ⟨p, 0, none⟩), .bool pad, .int .u64 len, .slice a t cap] w (Ret2 (f (pad, h, len, l)).1 (f (pad, h, len, l)).2 w) := by
  have key : ∀ x : Bool × (Int × Int) × Int × List Nat, ∃ y : Int × Int, ∀ w p a t cap, t < 16 → (x.1 = true → t < 15) → D w p x.2.1 → RY w a t cap x.2.2.2 →
      Calls Try.prog 69 #[.pointer (some ⟨p, 0, none⟩), .bool x.1, .int .u64 x.2.2.1, .slice a t cap] w (Ret2 y.1 y.2 w) := by
    rintro ⟨pad, h, len, l⟩
    by_cases hv : l.length < 16 ∧ (pad = true → l.length < 15)
    · obtain ⟨y1, y2, hy⟩ := sumAll pad l.length hv.1 hv.2 (h, len, l)
      refine ⟨(y1, y2), fun w p a t cap _ _ hd hr => ?_⟩
      obtain rfl : l.length = t := hr.2
      exact hy w p a cap hd hr
    · refine ⟨(0, 0), fun w p a t cap h1 h2 _ hr => ?_⟩
      obtain rfl : l.length = t := hr.2
      exact absurd ⟨h1, h2⟩ hv
  obtain ⟨f, hf⟩ := Classical.skolem.1 key
  exact ⟨f, fun pad h len l w p a t cap h1 h2 h3 h4 => hf (pad, h, len, l) w p a t cap h1 h2 h3 h4⟩

theorem RY.keep2 {w w' : World} {a : Option Addr} {n cap : Nat} {l : List Nat} {S : Nat → Prop} (h : RY w a n cap l) (ho : Only S w w') (hn : 0 < n → ∀ k, At a k → ¬ S k) : RY w' a n cap l := by
  rcases Nat.eq_zero_or_pos n with rfl | h0
  · exact ⟨⟨h.1.len, h.1.le, h.1.max, h.1.one, fun h => absurd h (by omega), h.1.nilcap⟩, h.2⟩
  · exact h.keep ho (hn h0)

theorem bmixw : ∃ G : Int × Int × Int × Int → Int × Int, ∀ x1 x2 k1 k2 w p, D w p (x1, x2) → Calls Try.prog 72 #[.pointer (some ⟨p, 0, none⟩), .int .u64 k1, .int .u64 k2] w (ND p (G (x1, x2, k1, k2)) w) := by
  obtain ⟨G, hG⟩ := Classical.skolem.1 bmixw_at
  exact ⟨G, fun x1 x2 k1 k2 w p h => hG (x1, x2, k1, k2) w p h⟩

theorem By_sub (l : List Nat) (k m : Nat) : ((By l).drop k).take m = By ((l.drop k).take m) := by simp [By, List.map_take, List.map_drop]
/-- a part of a slice of bytes -/
theorem RY.sub {w : World} {b off n cap : Nat} {l : List Nat} (h : RY w (some ⟨b, off, none⟩) n cap l) (k m cap' : Nat) (hk : k + m ≤ n) (hc : cap' ≤ cap) (hm : m ≤ cap') : RY w (some ⟨b, off + k, none⟩) m cap' ((l.drop k).take m) := by
  refine ⟨⟨?_, hm, Nat.le_trans hc h.1.max, ?_, fun h0 => ?_, fun h => by cases h⟩, by simp [h.2]; omega⟩
  · rw [← By_sub, List.length_take, List.length_drop, h.1.len]; omega
  · intro u hu
    rw [← By_sub] at hu
    exact h.1.one u (List.mem_of_mem_drop (List.mem_of_mem_take hu))
  · obtain ⟨b', off', e, hb, hcc⟩ := h.1.cells (by omega)
    cases e
    refine ⟨b, off + k, rfl, hb, ?_⟩
    rw [← By_sub]
    exact (hcc.drop k).take m

/-- the running hash behind i blocks -/
def hashed (G : Int × Int × Int × Int → Int × Int) (L : List Nat → Int) (l : List Nat) : Nat → Int × Int
  | 0 => (0, 0)
  | i + 1 => G ((hashed G L l i).1, (hashed G L l i).2, L ((l.drop (16 * i)).take 8), L ((l.drop (16 * i + 8)).take 8))

set_option maxRecDepth 100000 in
set_option maxHeartbeats 1600000 in
theorem bmix : ∃ f : List Nat → Int × Int, ∀ l w p a n cap, D w p (0, 0) → RY w a n cap l → n ≤ 1048576 → (0 < n → ¬ At a p) → Calls Try.prog 68 #[.pointer (some ⟨p, 0, none⟩), .slice a n cap] w (ND p (f l) w) := by
  obtain ⟨G, hG⟩ := bmixw
  obtain ⟨L, hL⟩ := le64
  refine ⟨fun l => hashed G L l (l.length / 16), fun l w p a n cap hd hr hn hpa => ?_⟩
  have HG := Lib.hid hG
  have HL := Lib.hid hL
  have hbd := hr.1.bound
  have HLen := Lib.hid hr.2
  have HR : Hid (∀ wx, Only (fun k => k = p) w wx → RY wx a n cap l) := Lib.hid (fun wx hx => hr.keep2 hx (fun h0 k hk e => hpa h0 (e ▸ hk)))
  have HD := Lib.hid hd
  clear hG hL hr hd
  go_enter Try.func68, Try.ntmps68
  go_wp2_with fail
  go_loopw [5, 6, 7, 8] (fun i _ _ _ wr => ∃ k : Nat, k ≤ n / 16 ∧ i = .int .i64 (k : Int) ∧ D wr p (hashed G L l k) ∧ Only (fun j => j = p) w wr) (fun i _ _ _ _ => n / 16 - (intOf i).toNat)
  case atStart => exact ⟨0, Nat.zero_le _, rfl, HD.out, Only.refl _ _⟩
  case round =>
    obtain ⟨k, hk, rfl, hd, hO⟩ := hrel
    have HO := Lib.hid hO
    have HDk := Lib.hid hd
    clear hO hd HD
    by_cases hlt : k < n / 16
    · have hlt' : (k : Int) < (n : Int) / 16 := by omega
      have h1 : 16 * k + 16 ≤ n := by omega
      obtain ⟨b, off, rfl, hb, _⟩ := (HR.out w (Only.refl _ _)).at (by omega)
      go_wp2_with fail
      rw [show (k + 1) * 16 - k * 16 = 16 from by omega]
      have hc8 : 8 ≤ cap - k * 16 := by omega
      have hc16 : 16 ≤ cap - k * 16 := by omega
      have hcc : cap - k * 16 ≤ cap := Nat.sub_le _ _
      generalize cap - k * 16 = c at *
      have hz1 : (8 : Int) ≤ (c : Int) := by omega
      have hz2 : (16 : Int) ≤ (c : Int) := by omega
      have HC1 : Hid (∀ w0 wx, Same wr w0 → Same w0 wx → Calls Try.prog 70 #[.agg #[], .slice (some ⟨b, off + k * 16, none⟩) 8 (c)] wx (FV w0 (.int .u64 (L ((l.drop (16 * k)).take 8))))) := Lib.hid (fun w0 wx h1' h2' => by
        have hr := (HR.out wx (Only.trans HO.out (Same.trans h1' h2') (fun _ _ h => h.elim))).sub (16 * k) 8 (c) (by omega) (by omega) (by omega)
        rw [Nat.mul_comm 16 k] at hr ⊢
        exact (HL.out _ wx _ 8 _ (Nat.le_refl _) hr).mono fun e w' ⟨he, hw⟩ => ⟨he, Same.trans h2' hw⟩)
      have HC2 : Hid (∀ w0 wx, Same wr w0 → Same w0 wx → Calls Try.prog 70 #[.agg #[], .slice (some ⟨b, off + k * 16 + 8, none⟩) 8 (c - 8)] wx (FV w0 (.int .u64 (L ((l.drop (16 * k + 8)).take 8))))) := Lib.hid (fun w0 wx h1' h2' => by
        have hr := (HR.out wx (Only.trans HO.out (Same.trans h1' h2') (fun _ _ h => h.elim))).sub (16 * k + 8) 8 (c - 8) (by omega) (by omega) (by omega)
        rw [Nat.mul_comm 16 k, ← Nat.add_assoc] at hr
        rw [Nat.mul_comm 16 k]
        exact (HL.out _ wx _ 8 _ (Nat.le_refl _) hr).mono fun e w' ⟨he, hw⟩ => ⟨he, Same.trans h2' hw⟩)
      go_region_held3 (fun _ => True) (exact trivial)
        (first | ((go_at_call 70; (with_reducible refine (HC1.out wr _ (Only.refl _ _) (by exact (Only.refl _ wr).drew)).mono ?_); rintro e w1 ⟨rfl, hO1⟩)) | ((go_at_call 70; (with_reducible refine (HC2.out w1 _ hO1 (Only.refl _ _)).mono ?_); rintro e w2 ⟨rfl, hO2⟩)))
      go_wp2_with fail
      refine (HG.out _ _ _ _ _ p (HDk.out.keep (Same.trans hO1 hO2))).mono ?_
      rintro e w3 ⟨rfl, hd3, hO3⟩
      have HD3 := Lib.hid hd3
      have HO3 := Lib.hid (Only.trans (Only.trans HO.out (Same.trans hO1 hO2) (fun _ _ h => h.elim)) hO3 (fun _ _ h => h))
      clear hd3 hO3
      go_wp2_with fail
      go_roundw
      case rel => exact ⟨k + 1, by omega, by go_num, HD3.out, HO3.out⟩
      case measure => simp [intOf]; omega
    · have hge : ¬ (k : Int) < (n : Int) / 16 := by omega
      have HE : Hid (k = l.length / 16) := Lib.hid (by rw [HLen.out]; omega)
      go_wp2_with fail
      go_end0
      exact ⟨rfl, by rw [← HE.out]; exact HDk.out, HO.out⟩

theorem RY.tail {w : World} {a : Option Addr} {n cap : Nat} {l : List Nat} (h : RY w a n cap l) (lo : Nat) (hlo : lo ≤ n) : RY w (a.map (fun x => x.add lo)) (n - lo) (cap - lo) (l.drop lo) := by
  have hb := h.1.le
  refine ⟨⟨?_, by omega, Nat.le_trans (Nat.sub_le _ _) h.1.max, ?_, fun h0 => ?_, fun hn => ?_⟩, by rw [List.length_drop, h.2]⟩
  · simp [By, h.2]
  · intro u hu
    refine h.1.one u ?_
    have : By (l.drop lo) = (By l).drop lo := by simp [By, List.map_drop]
    rw [this] at hu
    exact List.mem_of_mem_drop hu
  · obtain ⟨b, off, rfl, hbb, hc⟩ := h.1.cells (by omega)
    refine ⟨b, off + lo, by simp [Addr.add_lit], hbb, ?_⟩
    have : By (l.drop lo) = (By l).drop lo := by simp [By, List.map_drop]
    rw [this]
    exact hc.drop lo
  · have : a = none := by cases a <;> simp_all
    rw [h.1.nilcap this]; omega
theorem RY.none' (w : World) (x : Addr) (cap : Nat) (hc : cap ≤ 9223372036854775807) : RY w (some x) 0 cap [] :=
  ⟨⟨rfl, Nat.zero_le _, by unfold maxLen; omega, fun u hu => (nomatch hu), fun h => absurd h (by omega), fun h => by cases h⟩, rfl⟩
theorem at_map {a : Option Addr} {p lo : Nat} (h : At (a.map (fun x => x.add lo)) p) : At a p := by
  cases a with
  | none => exact h
  | some x =>
    simp only [Option.map_some, At, Addr.add] at h ⊢
    split at h <;> exact h

/-- four numbers are returned, the block p may have changed -/
def Ret4 (p : Nat) (y1 y2 y3 y4 : Int) (w : World) (e : Ending) (w' : World) : Prop := e = .returned (.tuple #[.int .u64 y1, .int .u64 y2, .int .u64 y3, .int .u64 y4]) ∧ Only (fun k => k = p) w w'

set_option maxRecDepth 100000 in
set_option maxHeartbeats 1600000 in
theorem sum256_15 (l : List Nat) (h15 : Hid (l.length % 16 = 15)) (hl : l.length ≤ 1048576) : ∃ y1 y2 y3 y4 : Int, ∀ w p a cap h, D w p h → RY w a l.length cap l → (0 < l.length → ¬ At a p) → Calls Try.prog 63 #[.pointer (some ⟨p, 0, none⟩), .slice a l.length cap] w (Ret4 p y1 y2 y3 y4 w) := by
  obtain ⟨G, hG⟩ := bmixw
  obtain ⟨L, hL⟩ := le64
  obtain ⟨L2, hL2⟩ := le32
  obtain ⟨S, hS⟩ := sum128
  obtain ⟨B, hB⟩ := bmix
  have HG := Lib.hid hG
  have HL := Lib.hid hL
  have HL2 := Lib.hid hL2
  have HS := Lib.hid hS
  have HB := Lib.hid hB
  clear hG hL hL2 hS hB
  apply Exists.intro
  apply Exists.intro
  apply Exists.intro
  apply Exists.intro
  · intro w p a cap h hd hr hpa
    obtain ⟨c0, c1, f0, f1⟩ := hd.cells
    have hbd := hr.1.bound
    have h15n := h15.out
    have h15' : ((l.length : Nat) : Int) % 16 = 15 := by omega
    have HD := Lib.hid hd
    have HR : Hid (∀ wx, Only (fun k => k = p) w wx → RY wx a l.length cap l) := Lib.hid (fun wx hx => hr.keep2 hx (fun h0 k hk e => hpa h0 (e ▸ hk)))
    have HPA := Lib.hid hpa
    have hge : 15 ≤ l.length := by omega
    clear hd hr h15n hpa
    go_enter Try.func63, Try.ntmps63
    go_wp2_with fail
    refine (HB.out l _ p a l.length cap (D.put HD.out 0 0) (HR.out _ (D.only _ _)) hl HPA.out).mono ?_
    rintro e w1 ⟨rfl, hd1, hO1⟩
    have HD1 := Lib.hid hd1
    have HO1 := Lib.hid (Only.trans (D.only (w := w) (p := p) (.int .u64 0) (.int .u64 0)) hO1 (fun _ _ h => h))
    clear hd1 hO1
    obtain ⟨b, off, rfl, hb, _⟩ := (HR.out w (Only.refl _ _)).at (by omega)
    go_wp2_with fail
    rw [show l.length - (l.length - 15) = 15 from by omega]
    have HT0 : Hid (∀ wx, Only (fun k => k = p) w wx → RY wx (some ⟨b, off + (l.length - 15), none⟩) 15 (cap - (l.length - 15)) (l.drop (l.length - 15))) := Lib.hid (fun wx hx => by
      have := (HR.out wx hx).tail (l.length - 15) (by omega)
      rw [show l.length - (l.length - 15) = 15 from by omega] at this
      simpa [Addr.add_lit] using this)
    have hc15 : 15 ≤ cap - (l.length - 15) := by omega
    have hcc : cap - (l.length - 15) ≤ 9223372036854775807 := by omega
    generalize cap - (l.length - 15) = c at *
    generalize off + (l.length - 15) = o at *
    refine (HS.out false (B l) _ (l.drop (l.length - 15)) w1 p _ 15 c (by decide) (fun h => by cases h) HD1.out (HT0.out w1 HO1.out)).mono ?_
    rintro e w2 ⟨rfl, hO2⟩
    have HD2 := Lib.hid (HD1.out.keep hO2)
    have HO2 := Lib.hid (Only.trans HO1.out hO2 (fun _ _ h => h.elim) : Only (fun k => k = p) w w2)
    have HT : Hid (∀ wx, Same w2 wx → RY wx (some ⟨b, o, none⟩) 15 c (l.drop (l.length - 15))) := Lib.hid (fun wx hx => HT0.out wx (Only.trans HO2.out hx (fun _ _ h => h.elim)))
    clear hO2 HD1 HO1 HT0
    have hz8 : (8 : Int) ≤ (c : Int) := by omega
    have hne8 : ¬ c = 8 := by omega
    have hz12 : (12 : Int) ≤ (c : Int) := by omega
    have HC1 : Hid (∀ w0 wx, Same w2 w0 → Same w0 wx → Calls Try.prog 70 #[.agg #[], .slice (some ⟨b, o, none⟩) 8 c] wx (FV w0 (.int .u64 (L ((l.drop (l.length - 15)).take 8))))) := Lib.hid (fun w0 wx h1' h2' => by
      have hr := (HT.out wx (Same.trans h1' h2')).sub 0 8 c (by omega) (by omega) (by omega)
      exact (HL.out _ wx _ 8 _ (Nat.le_refl _) hr).mono fun e w' ⟨he, hw⟩ => ⟨he, Same.trans h2' hw⟩)
    have HC2 : Hid (∀ w0 wx, Same w2 w0 → Same w0 wx → Calls Try.prog 71 #[.agg #[], .slice (some ⟨b, o + 8, none⟩) 4 (c - 8)] wx (FV w0 (.int .u32 (L2 (((l.drop (l.length - 15)).drop 8).take 4))))) := Lib.hid (fun w0 wx h1' h2' => by
      have hr := (HT.out wx (Same.trans h1' h2')).sub 8 4 (c - 8) (by omega) (by omega) (by omega)
      exact (HL2.out _ wx _ 4 _ (Nat.le_refl _) hr).mono fun e w' ⟨he, hw⟩ => ⟨he, Same.trans h2' hw⟩)
    go_wp2_with fail
    go_region_held3 (fun _ => True) (exact trivial)
      ((go_at_call 70; (with_reducible refine (HC1.out w2 _ (Only.refl _ _) (by exact (Only.refl _ w2).drew)).mono ?_); rintro e w3 ⟨rfl, hO3⟩))
    go_wp2_with fail
    go_region_held3 (fun _ => True) (exact trivial)
      ((go_at_call 71; (with_reducible refine (HC2.out w3 _ hO3 (by exact (Only.refl _ w3).drew)).mono ?_); rintro e w4 ⟨rfl, hO4⟩))
    go_wp2_with fail
    have h4 := HT.out w4 (Same.trans hO3 hO4)
    obtain ⟨b', o', he', hb4, hc4⟩ := h4.at (by omega)
    cases he'
    have e12 := hc4 12 (by omega)
    have e13 := hc4 13 (by omega)
    have e14 := hc4 14 (by omega)
    clear hc4 h4
    go_quiet (fail)
    go_wp2_with fail
    refine (HG.out (B l).1 (B l).2 _ _ _ p (HD2.out.keep ((Same.trans hO3 hO4).drewN _))).mono ?_
    rintro e w5 ⟨rfl, hd5, hO5⟩
    have HD5 := Lib.hid hd5
    have HO5 := Lib.hid (Only.trans (Only.trans HO2.out ((Same.trans hO3 hO4).drewN _) (fun _ _ h => h.elim)) hO5 (fun _ _ h => h))
    clear hd5 hO5 hO3 hO4
    go_wp2_with fail
    all_goals
      refine (HS.out false _ _ [] w5 p _ 0 _ (by decide) (fun h => by cases h) HD5.out (RY.none' _ _ _ (by omega))).mono ?_
      rintro e w6 ⟨rfl, hO6⟩
      have HO6 := Lib.hid (Only.trans HO5.out hO6 (fun _ _ h => h.elim))
      clear hO6
      go_wp2_with fail
      refine bodyPost_ret (v := .tuple #[.int .u64 _, .int .u64 _, .int .u64 _, .int .u64 _]) (by simp [results, Try.results63, go_sem] <;> exact ⟨rfl, rfl, rfl, rfl⟩) rfl ⟨rfl, HO6.out⟩

theorem RY_b {w : World} {a : Option Addr} {cap : Nat} {l : List Nat} (t : Nat) (h : RY w a l.length cap l) (ht : t ≤ l.length) : RY w (a.map (fun x => x.add (l.length - t))) t (cap - (l.length - t)) (l.drop (l.length - t)) := by
  have := h.tail (l.length - t) (by omega)
  rwa [show l.length - (l.length - t) = t from by omega] at this
theorem RY_a {w : World} {a : Option Addr} {cap : Nat} {l : List Nat} (t : Nat) (h : RY w a l.length cap l) (ht : t ≤ l.length) (hc : cap = l.length - t) : RY w a t 0 (l.drop (l.length - t)) := by
  have := h.1.le
  have ht0 : t = 0 := by omega
  subst ht0
  exact ⟨⟨by simp [By], Nat.zero_le _, by unfold maxLen; omega, by simp [By], fun h => absurd h (by omega), fun h => rfl⟩, by simp⟩

set_option maxRecDepth 100000 in
set_option maxHeartbeats 1600000 in
theorem sum256_no (l : List Nat) (t : Nat) (ht : Hid (l.length % 16 = t)) (ht15 : t < 15) (hl : l.length ≤ 1048576) : ∃ y1 y2 y3 y4 : Int, ∀ w p a cap h, D w p h → RY w a l.length cap l → (0 < l.length → ¬ At a p) → Calls Try.prog 63 #[.pointer (some ⟨p, 0, none⟩), .slice a l.length cap] w (Ret4 p y1 y2 y3 y4 w) := by
  obtain ⟨S, hS⟩ := sum128
  obtain ⟨B, hB⟩ := bmix
  have HS := Lib.hid hS
  have HB := Lib.hid hB
  clear hS hB
  apply Exists.intro
  apply Exists.intro
  apply Exists.intro
  apply Exists.intro
  · intro w p a cap h hd hr hpa
    obtain ⟨c0, c1, f0, f1⟩ := hd.cells
    have hbd := hr.1.bound
    have htn := ht.out
    have htl : t ≤ l.length := by omega
    have ht' : ((l.length : Nat) : Int) % 16 = (t : Int) := by omega
    have hti : (t : Int) ≤ (l.length : Int) := by omega
    have hne : ((t : Int) + 1 == 16) = false := by simp; omega
    have hne' : ¬ ((t : Int) + 1 = 16) := by omega
    have HD := Lib.hid hd
    have HR : Hid (∀ wx, Only (fun k => k = p) w wx → RY wx a l.length cap l) := Lib.hid (fun wx hx => hr.keep2 hx (fun h0 k hk e => hpa h0 (e ▸ hk)))
    have HPA := Lib.hid hpa
    clear hd hr htn hpa
    go_enter Try.func63, Try.ntmps63
    go_wp2_with fail
    refine (HB.out l _ p a l.length cap (D.put HD.out 0 0) (HR.out _ (D.only _ _)) hl HPA.out).mono ?_
    rintro e w1 ⟨rfl, hd1, hO1⟩
    have HD1 := Lib.hid hd1
    have HO1 := Lib.hid (Only.trans (D.only (w := w) (p := p) (.int .u64 0) (.int .u64 0)) hO1 (fun _ _ h => h))
    clear hd1 hO1
    have HTb := Lib.hid (fun wx hx => RY_b t (HR.out wx hx) htl)
    have HTa := Lib.hid (fun hc wx hx => RY_a t (HR.out wx hx) htl hc)
    go_wp2_with fail
    all_goals
      rw [show l.length - (l.length - t) = t from by omega]
      refine (HS.out false (B l) _ (l.drop (l.length - t)) w1 p _ t _ (by omega) (fun h => by cases h) HD1.out (by first | exact HTb.out w1 HO1.out | exact HTa.out ‹_› w1 HO1.out)).mono ?_
      rintro e w2 ⟨rfl, hO2⟩
      have HD2 := Lib.hid (HD1.out.keep hO2)
      have HO2 := Lib.hid (Only.trans HO1.out hO2 (fun _ _ h => h.elim) : Only (fun k => k = p) w w2)
      clear hO2
      go_wp2_with fail
      refine (HS.out true (B l) _ (l.drop (l.length - t)) w2 p _ t _ (by omega) (fun h => ht15) HD2.out (by first | exact HTb.out w2 HO2.out | exact HTa.out ‹_› w2 HO2.out)).mono ?_
      rintro e w3 ⟨rfl, hO3⟩
      have HO3 := Lib.hid (Only.trans HO2.out hO3 (fun _ _ h => h.elim))
      clear hO3
      go_wp2_with fail
      refine bodyPost_ret (v := .tuple #[.int .u64 _, .int .u64 _, .int .u64 _, .int .u64 _]) (by simp [results, Try.results63, go_sem] <;> exact ⟨rfl, rfl, rfl, rfl⟩) rfl ⟨rfl, HO3.out⟩

/-- baseHashes: the four numbers, in a row of their own -/
def H4 (y : Int × Int × Int × Int) : Value := .agg #[.int .u64 y.1, .int .u64 y.2.1, .int .u64 y.2.2.1, .int .u64 y.2.2.2]
theorem sum256 (l : List Nat) : ∃ y : Int × Int × Int × Int, ∀ w p a n cap h, n ≤ 1048576 → D w p h → RY w a n cap l → (0 < n → ¬ At a p) → Calls Try.prog 63 #[.pointer (some ⟨p, 0, none⟩), .slice a n cap] w (Ret4 p y.1 y.2.1 y.2.2.1 y.2.2.2 w) := by
  by_cases hl : l.length ≤ 1048576
  · by_cases h15 : l.length % 16 = 15
    · obtain ⟨y1, y2, y3, y4, hy⟩ := sum256_15 l (Lib.hid h15) hl
      refine ⟨(y1, y2, y3, y4), fun w p a n cap h hn hd hr hpa => ?_⟩
      obtain rfl : l.length = n := hr.2
      exact hy w p a cap h hd hr hpa
    · obtain ⟨y1, y2, y3, y4, hy⟩ := sum256_no l (l.length % 16) (Lib.hid rfl) (by omega) hl
      refine ⟨(y1, y2, y3, y4), fun w p a n cap h hn hd hr hpa => ?_⟩
      obtain rfl : l.length = n := hr.2
      exact hy w p a cap h hd hr hpa
  · refine ⟨(0, 0, 0, 0), fun w p a n cap h hn hd hr hpa => ?_⟩
    have := hr.2
    omega
set_option maxRecDepth 100000 in
set_option maxHeartbeats 1600000 in
theorem baseHashes : ∃ f : List Nat → Int × Int × Int × Int, ∀ l w a n cap, n ≤ 1048576 → RY w a n cap l → Calls Try.prog 53 #[.slice a n cap] w (FV w (H4 (f l))) := by
  obtain ⟨f, hf⟩ := Classical.skolem.1 sum256
  refine ⟨f, fun l w a n cap hn hr => ?_⟩
  have HF := Lib.hid hf
  have HR : Hid (∀ wx, Same w wx → RY wx a n cap l) := Lib.hid (fun wx hx => hr.keep hx (fun _ _ => id))
  have HA : Hid (0 < n → ¬ At a (w.heap.size + 1)) := Lib.hid (fun h0 hk => by
    obtain ⟨b, off, rfl, hb, _⟩ := hr.1.cells h0
    have : b = w.heap.size + 1 := hk
    omega)
  clear hf hr
  go_enter Try.func53, Try.ntmps53
  go_wp2_with fail
  obtain ⟨W1, hW1, hS1, hB1, hk1⟩ := newBlock w #[.int .u64 0, .int .u64 0, .int .u64 0, .int .u64 0] 83
  rw [← hW1]
  obtain ⟨W2, hW2, hS2, hB2, hk2⟩ := newBlock W1 #[.int .u64 0, .int .u64 0] 95
  rw [← hW2]
  rw [hk1] at hB2
  refine (HF.out l W2 (w.heap.size + 1) a n cap (0, 0) hn hB2 (HR.out _ (Same.trans hS1 hS2)) HA.out).mono ?_
  rintro e w3 ⟨rfl, hO3⟩
  have hB3 := hO3.obj (still hS2 hB1) (by omega)
  obtain ⟨c0, c1, c2, c3, f0, f1, f2, f3⟩ : w3.cell? ⟨w.heap.size, 0, none⟩ = some (.int .u64 0) ∧ w3.cell? ⟨w.heap.size, 1, none⟩ = some (.int .u64 0) ∧ w3.cell? ⟨w.heap.size, 2, none⟩ = some (.int .u64 0) ∧ w3.cell? ⟨w.heap.size, 3, none⟩ = some (.int .u64 0) ∧ w3.frozen? ⟨w.heap.size, 0, none⟩ = false ∧ w3.frozen? ⟨w.heap.size, 1, none⟩ = false ∧ w3.frozen? ⟨w.heap.size, 2, none⟩ = false ∧ w3.frozen? ⟨w.heap.size, 3, none⟩ = false :=
    ⟨block_cell hB3 rfl, block_cell hB3 rfl, block_cell hB3 rfl, block_cell hB3 rfl, block_free hB3, block_free hB3, block_free hB3, block_free hB3⟩
  have HO3 : Hid (Same w w3) := Lib.hid (Only.trans (Same.trans hS1 hS2) hO3 (fun k hk e => by omega))
  clear hW1 hS1 hB1 hk1 hW2 hS2 hB2 hk2 hO3 hB3
  go_wp2_with fail
  refine bodyPost_ret (v := .agg #[.int .u64 (f l).1, .int .u64 (f l).2.1, .int .u64 (f l).2.2.1, .int .u64 (f l).2.2.2]) ?_ rfl ⟨rfl, (((HO3.out.setCell _ _ (fun h => absurd h (by simp))).setCell _ _ (fun h => absurd h (by simp))).setCell _ _ (fun h => absurd h (by simp))).setCell _ _ (fun h => absurd h (by simp))⟩
  simp [results, Try.results53, go_sem, c0, c1, c2, c3]
end Go.Proofs.Ytpiajkabikbdnaa.bs

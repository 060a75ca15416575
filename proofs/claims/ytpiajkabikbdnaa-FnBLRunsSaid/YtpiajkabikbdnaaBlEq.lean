/-
  Equal of Bloom filters; the thin package's.
-/
import Derived.Test.YtpiajkabikbdnaaBlLaw
namespace Go.Proofs.Ytpiajkabikbdnaa.bs
open Go.RowKit Go.Proofs.Ytpiajkabikbdnaa.base Go.Proofs.Ytpiajkabikbdnaa.heap Go.Proofs.Ytpiajkabikbdnaa.bit
set_option linter.unusedVariables false

set_option maxRecDepth 100000 in
set_option maxHeartbeats 1600000 in
theorem bl_equal_m (f g : F) (w : World) (h : f.ok w) (h' : g.ok w) (hne : f.M ≠ g.M) :
    Calls Try.prog 35 #[f.ptr, g.ptr] w (FV w (.bool false)) := by
  obtain ⟨c0, c1, c2⟩ := h.cells
  obtain ⟨c0', c1', c2'⟩ := h'.cells
  have h1 : ((f.M : Int) == (g.M : Int)) = false := by simp; omega
  clear h h' hne
  unfold F.ptr
  go_enter Try.func35, Try.ntmps35
  go_wp2_with fail
  go_quiet (fail)
  go_wp2
  go_ret
  exact ⟨rfl, (Only.refl _ w).drewN _⟩
set_option maxRecDepth 100000 in
set_option maxHeartbeats 1600000 in
theorem bl_equal_k (f g : F) (w : World) (h : f.ok w) (h' : g.ok w) (hM : f.M = g.M) (hne : f.K ≠ g.K) :
    Calls Try.prog 35 #[f.ptr, g.ptr] w (FV w (.bool false)) := by
  obtain ⟨c0, c1, c2⟩ := h.cells
  obtain ⟨c0', c1', c2'⟩ := h'.cells
  rw [← hM] at c0'
  have h0 : ((f.M : Int) == (f.M : Int)) = true := by simp
  have h1 : ((f.K : Int) == (g.K : Int)) = false := by simp; omega
  clear h h' hne hM
  unfold F.ptr
  go_enter Try.func35, Try.ntmps35
  go_wp2_with fail
  go_quiet (fail)
  go_wp2
  go_ret
  exact ⟨rfl, (Only.refl _ w).drewN _⟩
set_option maxRecDepth 100000 in
set_option maxHeartbeats 1600000 in
theorem bl_equal_b (f g : F) (d d' : List Bool) (w : World) (h : f.ok w) (h' : g.ok w) (hM : f.M = g.M) (hK : f.K = g.K) (hr : f.o.rep d) (hr' : g.o.rep d') (hn : d.length ≤ 1048576) :
    Calls Try.prog 35 #[f.ptr, g.ptr] w (FV w (.bool (decide (d = d')))) := by
  obtain ⟨c0, c1, c2⟩ := h.cells
  obtain ⟨c0', c1', c2'⟩ := h'.cells
  rw [← hM] at c0'
  rw [← hK] at c1'
  have h0 : ((f.M : Int) == (f.M : Int)) = true := by simp
  have h1 : ((f.K : Int) == (f.K : Int)) = true := by simp
  have HE : Hid (∀ wx : World, wx.heap = w.heap → Calls Try.prog 52 #[.pointer (some ⟨f.o.p, 0, none⟩), .pointer (some ⟨g.o.p, 0, none⟩)] wx fun e w' => e = .returned (.bool (decide (d = d'))) ∧ ∃ m, w' = wx.drewN m) := Lib.hid (fun wx hx => equal f.o g.o d d' wx (h.set.of_heap hx) (h'.set.of_heap hx) hr hr' hn)
  clear h h' hM hK hr hr'
  unfold F.ptr
  generalize decide (d = d') = res at *
  go_enter Try.func35, Try.ntmps35
  go_wp2_with fail
  go_quiet ((go_at_call 52; exact Calls.quiet_of (HE.out _ (by exact rfl))))
  all_goals
    go_wp2
    go_ret
    exact ⟨rfl, (Only.refl _ w).drewN _⟩

theorem bl_equal (f g : F) (d d' : List Bool) (w : World) (h : f.ok w) (h' : g.ok w) (hr : f.o.rep d) (hr' : g.o.rep d') (hn : d.length ≤ 1048576) :
    Calls Try.prog 35 #[f.ptr, g.ptr] w (FV w (.bool (decide (f.M = g.M ∧ f.K = g.K ∧ d = d')))) := by
  by_cases hM : f.M = g.M
  · by_cases hK : f.K = g.K
    · have := bl_equal_b f g d d' w h h' hM hK hr hr' hn
      rwa [show decide (f.M = g.M ∧ f.K = g.K ∧ d = d') = decide (d = d') by simp [hM, hK]]
    · have := bl_equal_k f g w h h' hM hK
      rwa [show decide (f.M = g.M ∧ f.K = g.K ∧ d = d') = false by simp [hK]]
  · have := bl_equal_m f g w h h' hM
    rwa [show decide (f.M = g.M ∧ f.K = g.K ∧ d = d') = false by simp [hM]]

theorem rep_words {o : O} {n : Nat} (h1 : o.n = 64 * n) (h2 : o.m = n) (h3 : o.ws.length = n) : o.rep (bitsOf o.ws (64 * n)) := by
  refine ⟨by rw [bitsOf_len, h1], by rw [bitsOf_len, h2]; exact Nat.le_refl _, fun i => ?_⟩
  rw [bitsOf_get]
  by_cases h : i < 64 * n
  · rw [if_pos h]
  · rw [if_neg h]; exact bit_far _ _ (by omega)
theorem ffiltF {P : Program} {f : FuncId} {args : Array Value} {w0 w : World} {M K n : Nat} {l : List Nat} (hs : Same w0 w) (h : Calls P f args w (FiltF M K n l w)) : Calls P f args w (FiltF M K n l w0) :=
  h.mono fun e w' ⟨f, he, h1, h2, h3, h4, h5, h6, hO, hf⟩ => ⟨f, he, h1, h2, h3, h4, h5, h6, hs.trans hO, fun k hk => Nat.le_trans hs.size (hf k hk)⟩

/-- two plain filters are equal -/
def sameFilt (M K n : Nat) (l : List Nat) (M' K' n' : Nat) (l' : List Nat) : Bool := decide (M = M' ∧ K = K' ∧ bitsOf l (64 * n) = bitsOf l' (64 * n'))

set_option maxRecDepth 100000 in
set_option maxHeartbeats 1600000 in
theorem implBLEqual (M K : Nat) (a : Option Addr) (n cap : Nat) (l : List Nat) (M' K' : Nat) (a' : Option Addr) (n' cap' : Nat) (l' : List Nat) (w : World) (h : RU w a n cap l) (hok : Ok l) (h0 : 0 < n) (hn : n ≤ 16384) (h' : RU w a' n' cap' l') (hok' : Ok l') (h0' : 0 < n') (hn' : n' ≤ 16384) :
    Calls Try.prog 17 #[.agg #[.int .u64 (M : Int), .int .u64 (K : Int), .slice a n cap], .agg #[.int .u64 (M' : Int), .int .u64 (K' : Int), .slice a' n' cap']] w (FV w (.bool (sameFilt M K n l M' K' n' l'))) := by
  have HC : Hid (∀ w0 wx, Same w w0 → Same w0 wx → Calls Try.prog 29 #[.agg #[.int .u64 (M : Int), .int .u64 (K : Int), .slice a n cap]] wx (FiltF M K n l w0)) := Lib.hid (fun w0 wx h1 h2 => ffiltF h2 (bl_filter M K a n cap l wx (h.keep (Same.trans h1 h2) (fun _ _ => id)) h0 (by omega) hok))
  have HC' : Hid (∀ w0 wx, Same w w0 → Same w0 wx → Calls Try.prog 29 #[.agg #[.int .u64 (M' : Int), .int .u64 (K' : Int), .slice a' n' cap']] wx (FiltF M' K' n' l' w0)) := Lib.hid (fun w0 wx h1 h2 => ffiltF h2 (bl_filter M' K' a' n' cap' l' wx (h'.keep (Same.trans h1 h2) (fun _ _ => id)) h0' (by omega) hok'))
  have HE : Hid (∀ (f g : F) w0 wx, f.ok w0 → f.M = M → f.K = K → f.o.n = 64 * n → f.o.m = n → f.o.ws = l → Same w0 wx → g.ok wx → g.M = M' → g.K = K' → g.o.n = 64 * n' → g.o.m = n' → g.o.ws = l' → Calls Try.prog 35 #[f.ptr, g.ptr] wx (FV wx (.bool (sameFilt M K n l M' K' n' l')))) := Lib.hid (by
    intro f g w0 wx hf e1 e2 e3 e4 e5 hs hg g1 g2 g3 g4 g5
    have hf := hf.keep hs (fun _ _ => id)
    have := bl_equal f g _ _ wx hf hg (rep_words e3 e4 (by rw [hf.set.len, e4])) (rep_words g3 g4 (by rw [hg.set.len, g4])) (by rw [bitsOf_len]; omega)
    rw [e1, e2, e5, g1, g2, g5] at this
    exact this)
  clear h hok h' hok'
  go_enter Try.func17, Try.ntmps17
  go_wp2_with fail
  obtain ⟨W, hW, hS, hB, hk⟩ := newBlock w #[.int .u64 (M : Int), .int .u64 (K : Int), .slice a n cap] 26
  rw [← hW, ← hk]
  obtain ⟨W', hW', hS', hB', hk'⟩ := newBlock W #[.int .u64 (M' : Int), .int .u64 (K' : Int), .slice a' n' cap'] 26
  rw [← hW']
  have HK : Hid (∀ wx, Same W' wx → (wx.cell? ⟨w.heap.size, 0, none⟩ = some (.int .u64 (M : Int)) ∧ wx.cell? ⟨w.heap.size, 1, none⟩ = some (.int .u64 (K : Int)) ∧ wx.cell? ⟨w.heap.size, 2, none⟩ = some (.slice a n cap)) ∧ (wx.cell? ⟨w.heap.size + 1, 0, none⟩ = some (.int .u64 (M' : Int)) ∧ wx.cell? ⟨w.heap.size + 1, 1, none⟩ = some (.int .u64 (K' : Int)) ∧ wx.cell? ⟨w.heap.size + 1, 2, none⟩ = some (.slice a' n' cap'))) := Lib.hid (fun wx hx => by
    have h1 := still (Same.trans hS' hx) hB
    have h2 := still hx hB'
    rw [hk] at h2
    exact ⟨⟨block_cell h1 rfl, block_cell h1 rfl, block_cell h1 rfl⟩, ⟨block_cell h2 rfl, block_cell h2 rfl, block_cell h2 rfl⟩⟩)
  rw [hk]
  obtain ⟨⟨d0, d1, d2⟩, ⟨d3, d4, d5⟩⟩ := HK.out W' (Only.refl _ _)
  have HS := Lib.hid (Same.trans hS hS')
  clear hW hS hB hk hW' hS' hB' hk'
  go_region_held3 (fun wx => (wx.cell? ⟨w.heap.size, 0, none⟩ = some (.int .u64 (M : Int)) ∧ wx.cell? ⟨w.heap.size, 1, none⟩ = some (.int .u64 (K : Int)) ∧ wx.cell? ⟨w.heap.size, 2, none⟩ = some (.slice a n cap)) ∧ (wx.cell? ⟨w.heap.size + 1, 0, none⟩ = some (.int .u64 (M' : Int)) ∧ wx.cell? ⟨w.heap.size + 1, 1, none⟩ = some (.int .u64 (K' : Int)) ∧ wx.cell? ⟨w.heap.size + 1, 2, none⟩ = some (.slice a' n' cap')))
    (first | go_keep | (exact HK.out _ (Same.trans hO1 (Same.trans hO2 hO3))) | (exact HK.out _ (Same.trans hO1 hO2)) | (exact HK.out _ hO1))
    (first | ((go_at_call 35; (with_reducible refine (HE.out f1 f2 w1 w2 h1 e1 e2 e3 e4 e5 hO2 h2 g1 g2 g3 g4 g5).mono ?_); rintro e w3 ⟨rfl, hO3⟩)) | ((go_at_call 29; (with_reducible refine (HC.out W' _ HS.out (by exact (Only.refl _ W').drew)).mono ?_); rintro e w1 ⟨f1, rfl, h1, e1, e2, e3, e4, e5, hO1, hf1⟩)) | ((go_at_call 29; (with_reducible refine (HC'.out w1 _ (Same.trans HS.out hO1) (Only.refl _ _)).mono ?_); rintro e w2 ⟨f2, rfl, h2, g1, g2, g3, g4, g5, hO2, hf2⟩)))
  all_goals
    go_wp2
    go_ret
    exact ⟨rfl, Same.trans HS.out (Same.trans hO1 (Same.trans hO2 hO3))⟩
end Go.Proofs.Ytpiajkabikbdnaa.bs

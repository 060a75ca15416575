/-
  Bloom filters in memory: From, FromWithM of the packages; the thin package's filter, told.
-/
import Derived.Test.YtpiajkabikbdnaaBsFrom
import Derived.Test.YtpiajkabikbdnaaBsBL
import Derived.Test.YtpiajkabikbdnaaBsBLw
import Derived.Deep.RegionHeld3
namespace Go.Proofs.Ytpiajkabikbdnaa.bs
open Go.RowKit Go.Proofs.Ytpiajkabikbdnaa.base Go.Proofs.Ytpiajkabikbdnaa.heap Go.Proofs.Ytpiajkabikbdnaa.bit
set_option linter.unusedVariables false

/-- a filter in memory: its struct's block, its size, its number of hash functions, its bitset -/
structure F where
  p : Nat
  M : Nat
  K : Nat
  o : O
def F.foot (f : F) (k : Nat) : Prop := k = f.p ∨ f.o.foot k
def F.ptr (f : F) : Value := .pointer (some ⟨f.p, 0, none⟩)
structure F.ok (f : F) (w : World) : Prop where
  obj : w.heap[f.p]? = some (.cells #[.int .u64 (f.M : Int), .int .u64 (f.K : Int), .pointer (some ⟨f.o.p, 0, none⟩)] 76 (0, 0))
  set : f.o.ok w
  apart : ¬ f.o.foot f.p
theorem F.ok.keep {f : F} {w w' : World} {S : Nat → Prop} (h : f.ok w) (ho : Only S w w') (hn : ∀ k, f.foot k → ¬ S k) : f.ok w' :=
  ⟨ho.obj h.obj (hn _ (.inl rfl)), h.set.keep ho (fun k hk => hn k (.inr hk)), h.apart⟩
theorem F.ok.cells {f : F} {w : World} (h : f.ok w) :
    w.cell? ⟨f.p, 0, none⟩ = some (.int .u64 (f.M : Int)) ∧ w.cell? ⟨f.p, 1, none⟩ = some (.int .u64 (f.K : Int)) ∧ w.cell? ⟨f.p, 2, none⟩ = some (.pointer (some ⟨f.o.p, 0, none⟩)) := by
  refine ⟨?_, ?_, ?_⟩
  · rw [cell_of_row w f.p 0 _ _ _ h.obj]; rfl
  · rw [cell_of_row w f.p 1 _ _ _ h.obj]; rfl
  · rw [cell_of_row w f.p 2 _ _ _ h.obj]; rfl

set_option maxHeartbeats 800000 in
/-- From, to the letter -/
theorem from_exact (a : Option Addr) (m cap : Nat) (w : World) (hm : m ≤ 1048576) :
    Calls Try.prog 51 #[.slice a m cap] w fun e w' => e = .returned (.pointer (some ⟨w.heap.size, 0, none⟩)) ∧ w' = w.alloc (.cells #[.int .u64 ((m * 64 : Nat) : Int), .slice a m cap] 90) := by
  have HC := Lib.hid (fromLen (m * 64) a m cap w (by omega) (by omega) hm)
  have HE : Hid (((m * 64 : Nat) : Int) = (m : Int) * 64) := Lib.hid (by omega)
  rw [HE.out] at HC
  rw [HE.out]
  clear HE
  go_enter Try.func51, Try.ntmps51
  go_wp2_with fail
  refine HC.out.mono ?_
  rintro e w' ⟨rfl, rfl⟩
  go_wp2_with fail
  go_ret
  exact ⟨rfl, rfl⟩

/-- a new filter -/
def NewF (M K m : Nat) (a : Option Addr) (l : List Nat) (w : World) (e : Ending) (w' : World) : Prop :=
  ∃ f : F, e = .returned f.ptr ∧ f.ok w' ∧ f.M = M ∧ f.K = K ∧ f.o.n = 64 * m ∧ f.o.m = m ∧ f.o.a = a ∧ f.o.ws = l ∧ Same w w' ∧ w.heap.size ≤ f.p ∧ w.heap.size ≤ f.o.p

set_option maxHeartbeats 800000 in
theorem fromWithM (a : Option Addr) (m cap M K : Nat) (l : List Nat) (w : World) (hm : m ≤ 1048576) (hown : Own 59 1 w a m cap (U l)) (hl : l.length = m) (ha : a ≠ none) (hok : Ok l) :
    Calls Try.prog 34 #[.slice a m cap, .int .u64 (M : Int), .int .u64 (K : Int)] w (NewF M K m a l w) := by
  have HC : Hid (∀ wx, Calls Try.prog 51 #[.slice a m cap] wx fun e w' => e = .returned (.pointer (some ⟨wx.heap.size, 0, none⟩)) ∧ w' = wx.alloc (.cells #[.int .u64 ((m * 64 : Nat) : Int), .slice a m cap] 90)) := Lib.hid (fun wx => from_exact a m cap wx hm)
  have HOWN := Lib.hid hown
  clear hown
  go_enter Try.func34, Try.ntmps34
  go_wp2_with fail
  refine (HC.out _).mono ?_
  rintro e w' ⟨rfl, rfl⟩
  go_wp2_with fail
  go_ret
  have hO : Same w ((w.alloc (.cells #[.int .u64 ((m * 64 : Nat) : Int), .slice a m cap] 90)).alloc (.cells #[.int .u64 (M : Int), .int .u64 (K : Int), .pointer (some ⟨w.heap.size, 0, none⟩)] 76)) := ((Only.refl _ w).alloc _).alloc _
  have hlt : ∀ k, At a k → k < w.heap.size := fun k hk => HOWN.out.lt k hk
  refine ⟨⟨w.heap.size + 1, M, K, ⟨w.heap.size, m * 64, a, m, cap, l⟩⟩, rfl, ⟨heap_alloc_new' _ _ _ (by simp), ⟨heap_alloc_second _ _ _, HOWN.out.keep hO (fun _ _ => id), hl, hok, fun hk => ?_, ha⟩, ?_⟩, rfl, rfl, Nat.mul_comm _ _, rfl, rfl, rfl, hO, by show _ ≤ _ + 1; omega, Nat.le_refl _⟩
  · have := hlt _ hk
    exact Nat.lt_irrefl _ this
  · rintro (hk | hk)
    · have hk : w.heap.size + 1 = w.heap.size := hk
      omega
    · have := hlt _ hk
      have : w.heap.size + 1 < w.heap.size := this
      omega

/-- a new filter whose words are new, too -/
def FiltF (M K n : Nat) (l : List Nat) (w : World) (e : Ending) (w' : World) : Prop :=
  ∃ f : F, e = .returned f.ptr ∧ f.ok w' ∧ f.M = M ∧ f.K = K ∧ f.o.n = 64 * n ∧ f.o.m = n ∧ f.o.ws = l ∧ Same w w' ∧ ∀ k, f.foot k → w.heap.size ≤ k

theorem fown {P : Program} {f : FuncId} {args : Array Value} {w0 w : World} {n : Nat} {l : List Nat} (hs : Same w0 w) (h : Calls P f args w (RetOwn n l w)) : Calls P f args w (RetOwn n l w0) :=
  h.mono fun e w' ⟨a, c, he, ho, hn, hO, hf⟩ => ⟨a, c, he, ho, hn, hs.trans hO, fun k hk => ⟨Nat.le_trans hs.size (hf k hk).1, (hf k hk).2⟩⟩

set_option maxRecDepth 100000 in
set_option maxHeartbeats 1600000 in
theorem bl_filter (M K : Nat) (a : Option Addr) (n cap : Nat) (l : List Nat) (w : World) (h : RU w a n cap l) (h0 : 0 < n) (hn : n ≤ 1048576) (hok : Ok l) :
    Calls Try.prog 29 #[.agg #[.int .u64 (M : Int), .int .u64 (K : Int), .slice a n cap]] w (FiltF M K n l w) := by
  have HC : Hid (∀ w0 wx, Same w w0 → Same w0 wx → Calls Try.prog 33 #[.slice a n cap] wx (RetOwn n l w0)) := Lib.hid (fun w0 wx h0' hx => fown hx (words a n cap l wx (h.keep (Same.trans h0' hx) (fun _ _ => id)) h0 hn))
  have HL := Lib.hid h.2
  have HOK := Lib.hid hok
  clear h hok
  go_enter Try.func29, Try.ntmps29
  go_wp2_with fail
  obtain ⟨W, hW, hS, hB, hk⟩ := newBlock w #[.int .u64 (M : Int), .int .u64 (K : Int), .slice a n cap] 26
  rw [← hW]
  have HK : Hid (∀ wx, Same W wx → wx.cell? ⟨w.heap.size, 0, none⟩ = some (.int .u64 (M : Int)) ∧ wx.cell? ⟨w.heap.size, 1, none⟩ = some (.int .u64 (K : Int)) ∧ wx.cell? ⟨w.heap.size, 2, none⟩ = some (.slice a n cap)) := Lib.hid (fun wx hx =>
    ⟨block_cell (still hx hB) rfl, block_cell (still hx hB) rfl, block_cell (still hx hB) rfl⟩)
  obtain ⟨d0, d1, d2⟩ := HK.out W (Only.refl _ _)
  have HS := Lib.hid hS
  clear hW hS hB hk
  go_region_held3 (fun w' => w'.cell? ⟨w.heap.size, 0, none⟩ = some (.int .u64 (M : Int)) ∧ w'.cell? ⟨w.heap.size, 1, none⟩ = some (.int .u64 (K : Int)) ∧ w'.cell? ⟨w.heap.size, 2, none⟩ = some (.slice a n cap))
    (first | go_keep | (go_split_ands; exact HK.out _ (hO1.trans hO2)) | (go_split_ands; exact HK.out _ hO1))
    (first | ((go_at_call 33; (with_reducible refine (HC.out W _ HS.out (by exact (Only.refl _ W).drew)).mono ?_); rintro e w1 ⟨a1, cap1, rfl, hown, hne, hO1, hf1⟩)) | ((go_at_call 34; (with_reducible refine (fromWithM a1 n cap1 M K l w1 hn hown HL.out hne HOK.out).mono ?_); rintro e w2 ⟨f, rfl, hfok, e1, e2, e3, e4, e5, e6, hO2, g1, g2⟩)))
  have HE : Hid (FiltF M K n l w (.returned f.ptr) w2) := Lib.hid (by
    have hsz := HS.out.size
    have hsz1 := hO1.size
    refine ⟨f, rfl, hfok, e1, e2, e3, e4, e6, Same.trans HS.out (Same.trans hO1 hO2), fun k hk => ?_⟩
    rcases hk with hk | hk | hk
    · omega
    · omega
    · rw [e5] at hk
      have := (hf1 k hk).1
      omega)
  clear hfok e1 e2 e3 e4 e5 e6 hO2 g1 g2 hown hne hO1 hf1
  unfold F.ptr at *
  go_wp2
  go_ret
  exact HE.out
end Go.Proofs.Ytpiajkabikbdnaa.bs

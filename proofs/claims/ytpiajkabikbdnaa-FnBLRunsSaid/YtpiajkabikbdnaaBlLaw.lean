/-
  What the laws on Bloom filters share: a block that a function's result lies in; From.
-/
import Derived.Test.YtpiajkabikbdnaaBlSame
namespace Go.Proofs.Ytpiajkabikbdnaa.bs
open Go.RowKit Go.Proofs.Ytpiajkabikbdnaa.base Go.Proofs.Ytpiajkabikbdnaa.heap Go.Proofs.Ytpiajkabikbdnaa.bit
set_option linter.unusedVariables false

/-- the block of a result of type Filter, before it is written -/
theorem filt_cells {w : World} {k : Nat} (h : w.heap[k]? = some (.cells #[.int .u64 0, .int .u64 0, .slice none 0 0] 26 (0, 0))) :
    w.cell? ⟨k, 0, none⟩ = some (.int .u64 0) ∧ w.cell? ⟨k, 1, none⟩ = some (.int .u64 0) ∧ w.cell? ⟨k, 2, none⟩ = some (.slice none 0 0) ∧
    w.frozen? ⟨k, 0, none⟩ = false ∧ w.frozen? ⟨k, 1, none⟩ = false ∧ w.frozen? ⟨k, 2, none⟩ = false :=
  ⟨block_cell h rfl, block_cell h rfl, block_cell h rfl, block_free h, block_free h, block_free h⟩
theorem filt_put {w w3 : World} {k M K n cap : Nat} {a : Option Addr} {l : List Nat} (hk : k = w.heap.size) (hu : RU w3 a n cap l) (ha : ∀ j, At a j → w.heap.size < j) (hO : Same w w3) :
    FFilt w M K n l (.returned (.agg #[.int .u64 (M : Int), .int .u64 (K : Int), .slice a n cap])) (((w3.setCell ⟨k, 0, none⟩ (.int .u64 (M : Int))).setCell ⟨k, 1, none⟩ (.int .u64 (K : Int))).setCell ⟨k, 2, none⟩ (.slice a n cap)) := by
  subst hk
  refine ⟨a, cap, rfl, ?_, ((hO.setCell _ _ (fun h => absurd h (by simp))).setCell _ _ (fun h => absurd h (by simp))).setCell _ _ (fun h => absurd h (by simp)), fun j hj => Nat.le_of_lt (ha j hj)⟩
  exact hu.keep (S := fun j => j = w.heap.size) ((((Only.refl (fun j => j = w.heap.size) _).setCell _ _ (fun _ => rfl)).setCell _ _ (fun _ => rfl)).setCell _ _ (fun _ => rfl)) (fun j hj e => by have := ha j hj; omega)

theorem ffilt {P : Program} {f : FuncId} {args : Array Value} {w0 w : World} {M K n : Nat} {l : List Nat} (hs : Same w0 w) (h : Calls P f args w (FFilt w M K n l)) : Calls P f args w (FFilt w0 M K n l) :=
  h.mono fun e w' ⟨a, cap, he, hu, hO, hf⟩ => ⟨a, cap, he, hu, hs.trans hO, fun k hk => Nat.le_trans hs.size (hf k hk)⟩

set_option maxHeartbeats 800000 in
theorem bl_from (a : Option Addr) (m cap K : Nat) (l : List Nat) (w : World) (hm : m ≤ 16384) (hown : Own 59 1 w a m cap (U l)) (hl : l.length = m) (ha : a ≠ none) (hok : Ok l) :
    Calls Try.prog 32 #[.slice a m cap, .int .u64 (K : Int)] w (NewF (m * 64) K m a l w) := by
  have HC := Lib.hid (fromWithM a m cap (m * 64) K l w (by omega) hown hl ha hok)
  have HE : Hid (((m * 64 : Nat) : Int) = (m : Int) * 64) := Lib.hid (by omega)
  rw [HE.out] at HC
  clear hown HE
  go_enter Try.func32, Try.ntmps32
  go_wp2_with fail
  refine HC.out.mono ?_
  rintro e w' ⟨f, rfl, hf⟩
  have HF := Lib.hid hf
  clear hf
  unfold F.ptr at *
  go_wp2_with fail
  go_ret
  exact ⟨f, rfl, HF.out⟩

set_option maxRecDepth 100000 in
set_option maxHeartbeats 1600000 in
theorem implBLFrom (K : Nat) (a : Option Addr) (n cap : Nat) (l : List Nat) (w : World) (h : RU w a n cap l) (hok : Ok l) (h0 : 0 < n) (hn : n ≤ 16384) :
    Calls Try.prog 15 #[.slice a n cap, .int .u64 (K : Int)] w (FFilt w (n * 64) K n l) := by
  have HC : Hid (∀ wx, Same w wx → Calls Try.prog 33 #[.slice a n cap] wx (RetOwn n l wx)) := Lib.hid (fun wx hx => words a n cap l wx (h.keep hx (fun _ _ => id)) h0 (by omega))
  have HL := Lib.hid h.2
  have HOK := Lib.hid hok
  clear h hok
  go_enter Try.func15, Try.ntmps15
  go_wp2_with fail
  refine (HC.out _ ((Only.refl _ w).alloc _)).mono ?_
  rintro e w1 ⟨a1, cap1, rfl, hown, hne, hO1, hf1⟩
  have hres := boxed hO1
  have HO1 := Lib.hid (same_alloc hO1)
  have HF := Lib.hid (bl_from a1 n cap1 K l w1 hn hown HL.out hne HOK.out)
  have HX : Hid (∀ j, At a1 j → w.heap.size < j) := Lib.hid (fun j hj => by have := (hf1 j hj).1; simp at this; omega)
  have hz1 := hO1.size
  have hz1 : w.heap.size < w1.heap.size := by simp at hz1; omega
  clear hown hne hO1 hf1
  go_wp2_with fail
  refine HF.out.mono ?_
  rintro e w2 ⟨f, rfl, hf, e1, e2, e3, e4, e5, e6, hO2, g1, g2⟩
  have HT := bl_told f w2 hf (by omega) (by omega)
  rw [e1, e2, e4, e6] at HT
  have HT := Lib.hid HT
  have hres := still hO2 hres
  have HO2 := Lib.hid (Same.trans HO1.out hO2)
  have hz2 := hO2.size
  clear hf e1 e2 e3 e4 e5 e6 hO2 g1 g2 HF HO1
  unfold F.ptr at *
  go_wp2_with fail
  refine HT.out.mono ?_
  rintro e w3 ⟨a3, cap3, rfl, hu3, hO3, hf3⟩
  obtain ⟨r0, r1, r2, s0, s1, s2⟩ := filt_cells (still hO3 hres)
  have HP := Lib.hid (filt_put (M := n * 64) (K := K) rfl hu3 (fun j hj => by have := hf3 j hj; omega) (Same.trans HO2.out hO3))
  clear hu3 hO3 hf3 HT HO2 hres
  go_wp2_with fail
  refine bodyPost_ret (v := .agg #[.int .u64 ((n * 64 : Nat) : Int), .int .u64 (K : Int), .slice a3 n cap3]) ?_ rfl HP.out
  simp [results, Try.results15, go_sem, r0, r1, r2]

set_option maxRecDepth 100000 in
set_option maxHeartbeats 1600000 in
theorem implBLFromWithM (M K : Nat) (a : Option Addr) (n cap : Nat) (l : List Nat) (w : World) (h : RU w a n cap l) (hok : Ok l) (h0 : 0 < n) (hn : n ≤ 16384) :
    Calls Try.prog 16 #[.slice a n cap, .int .u64 (M : Int), .int .u64 (K : Int)] w (FFilt w M K n l) := by
  have HC : Hid (∀ wx, Same w wx → Calls Try.prog 33 #[.slice a n cap] wx (RetOwn n l wx)) := Lib.hid (fun wx hx => words a n cap l wx (h.keep hx (fun _ _ => id)) h0 (by omega))
  have HL := Lib.hid h.2
  have HOK := Lib.hid hok
  clear h hok
  go_enter Try.func16, Try.ntmps16
  go_wp2_with fail
  refine (HC.out _ ((Only.refl _ w).alloc _)).mono ?_
  rintro e w1 ⟨a1, cap1, rfl, hown, hne, hO1, hf1⟩
  have hres := boxed hO1
  have HO1 := Lib.hid (same_alloc hO1)
  have HF := Lib.hid (fromWithM a1 n cap1 M K l w1 (by omega) hown HL.out hne HOK.out)
  have hz1 := hO1.size
  have hz1 : w.heap.size < w1.heap.size := by simp at hz1; omega
  clear hown hne hO1 hf1
  go_wp2_with fail
  refine HF.out.mono ?_
  rintro e w2 ⟨f, rfl, hf, e1, e2, e3, e4, e5, e6, hO2, g1, g2⟩
  have HT := bl_told f w2 hf (by omega) (by omega)
  rw [e1, e2, e4, e6] at HT
  have HT := Lib.hid HT
  have hres := still hO2 hres
  have HO2 := Lib.hid (Same.trans HO1.out hO2)
  have hz2 := hO2.size
  clear hf e1 e2 e3 e4 e5 e6 hO2 g1 g2 HF HO1
  unfold F.ptr at *
  go_wp2_with fail
  refine HT.out.mono ?_
  rintro e w3 ⟨a3, cap3, rfl, hu3, hO3, hf3⟩
  obtain ⟨r0, r1, r2, s0, s1, s2⟩ := filt_cells (still hO3 hres)
  have HP := Lib.hid (filt_put (M := M) (K := K) rfl hu3 (fun j hj => by have := hf3 j hj; omega) (Same.trans HO2.out hO3))
  clear hu3 hO3 hf3 HT HO2 hres
  go_wp2_with fail
  refine bodyPost_ret (v := .agg #[.int .u64 (M : Int), .int .u64 (K : Int), .slice a3 n cap3]) ?_ rfl HP.out
  simp [results, Try.results16, go_sem, r0, r1, r2]
end Go.Proofs.Ytpiajkabikbdnaa.bs

/-
  Bloom filters: told; TestLocations.
-/
import Derived.Test.YtpiajkabikbdnaaBlF
namespace Go.Proofs.Ytpiajkabikbdnaa.bs
open Go.RowKit Go.Proofs.Ytpiajkabikbdnaa.base Go.Proofs.Ytpiajkabikbdnaa.heap Go.Proofs.Ytpiajkabikbdnaa.bit
set_option linter.unusedVariables false

set_option maxHeartbeats 400000 in
theorem bl_cap (f : F) (w : World) (h : f.ok w) : Calls Try.prog 47 #[f.ptr] w fun e w' => e = .returned (.int .u64 (f.M : Int)) ∧ w' = w := by
  obtain ⟨c0, c1, c2⟩ := h.cells
  unfold F.ptr
  go_enter Try.func47, Try.ntmps47
  go_wp2
  go_ret
  exact ⟨rfl, rfl⟩
set_option maxHeartbeats 400000 in
theorem bl_k (f : F) (w : World) (h : f.ok w) : Calls Try.prog 48 #[f.ptr] w fun e w' => e = .returned (.int .u64 (f.K : Int)) ∧ w' = w := by
  obtain ⟨c0, c1, c2⟩ := h.cells
  unfold F.ptr
  go_enter Try.func48, Try.ntmps48
  go_wp2
  go_ret
  exact ⟨rfl, rfl⟩
set_option maxHeartbeats 400000 in
theorem bl_bitset (f : F) (w : World) (h : f.ok w) : Calls Try.prog 49 #[f.ptr] w fun e w' => e = .returned f.o.ptr ∧ w' = w := by
  obtain ⟨c0, c1, c2⟩ := h.cells
  unfold F.ptr O.ptr
  go_enter Try.func49, Try.ntmps49
  go_wp2
  go_ret
  exact ⟨rfl, rfl⟩
set_option maxHeartbeats 400000 in
theorem bs_words (o : O) (w : World) (h : o.ok w) : Calls Try.prog 50 #[o.ptr] w fun e w' => e = .returned (.slice o.a o.m o.cap) ∧ w' = w := by
  obtain ⟨c0, c1, f0, f1⟩ := h.cells
  unfold O.ptr
  go_enter Try.func50, Try.ntmps50
  go_wp2
  go_ret
  exact ⟨rfl, rfl⟩

/-- a plain filter is returned, from the world w0 on -/
def FFilt (w0 : World) (M K n : Nat) (l : List Nat) (e : Ending) (w' : World) : Prop :=
  ∃ a cap, e = .returned (.agg #[.int .u64 (M : Int), .int .u64 (K : Int), .slice a n cap]) ∧ RU w' a n cap l ∧ Same w0 w' ∧ ∀ k, At a k → w0.heap.size ≤ k

set_option maxRecDepth 100000 in
set_option maxHeartbeats 1600000 in
theorem bl_told (f : F) (w : World) (h : f.ok w) (h0 : 0 < f.o.m) (hn : f.o.m ≤ 1048576) :
    Calls Try.prog 31 #[f.ptr] w (FFilt w f.M f.K f.o.m f.o.ws) := by
  have H : Hid (∀ wx, Same w wx → f.ok wx) := Lib.hid (fun wx hx => h.keep hx (fun _ _ => id))
  have HRU : Hid (∀ wx, Same w wx → RU wx f.o.a f.o.m f.o.cap f.o.ws) := Lib.hid (fun wx hx => ⟨(H.out wx hx).set.own.rd, h.set.len⟩)
  clear h
  go_enter Try.func31, Try.ntmps31
  go_wp2_with (first | (go_at_call 47; refine (bl_cap f _ (H.out _ (by repeat (first | exact Only.refl _ _ | refine Only.alloc ?_ _)))).mono ?_; rintro e w' ⟨rfl, rfl⟩) | (go_at_call 48; refine (bl_k f _ (H.out _ (by repeat (first | exact Only.refl _ _ | refine Only.alloc ?_ _)))).mono ?_; rintro e w' ⟨rfl, rfl⟩) | (go_at_call 49; refine (bl_bitset f _ (H.out _ (by repeat (first | exact Only.refl _ _ | refine Only.alloc ?_ _)))).mono ?_; rintro e w' ⟨rfl, rfl⟩) | (go_at_call 50; refine (bs_words f.o _ (H.out _ (by repeat (first | exact Only.refl _ _ | refine Only.alloc ?_ _))).set).mono ?_; rintro e w' ⟨rfl, rfl⟩))
  refine (words _ _ _ _ _ (HRU.out _ ((Only.refl _ w).alloc _)) h0 hn).mono ?_
  rintro e w1 ⟨a1, cap1, rfl, hown, hne, hO1, hf1⟩
  have hres := boxed hO1
  have r0 : w1.cell? ⟨w.heap.size, 0, none⟩ = some (.int .u64 0) := block_cell hres rfl
  have r1 : w1.cell? ⟨w.heap.size, 1, none⟩ = some (.int .u64 0) := block_cell hres rfl
  have r2 : w1.cell? ⟨w.heap.size, 2, none⟩ = some (.slice none 0 0) := block_cell hres rfl
  have rf0 : w1.frozen? ⟨w.heap.size, 0, none⟩ = false := block_free hres
  have rf1 : w1.frozen? ⟨w.heap.size, 1, none⟩ = false := block_free hres
  have rf2 : w1.frozen? ⟨w.heap.size, 2, none⟩ = false := block_free hres
  have HP : Hid (FFilt w f.M f.K f.o.m f.o.ws (.returned (.agg #[.int .u64 (f.M : Int), .int .u64 (f.K : Int), .slice a1 f.o.m cap1])) (((w1.setCell ⟨w.heap.size, 0, none⟩ (.int .u64 (f.M : Int))).setCell ⟨w.heap.size, 1, none⟩ (.int .u64 (f.K : Int))).setCell ⟨w.heap.size, 2, none⟩ (.slice a1 f.o.m cap1))) := Lib.hid (by
    refine ⟨a1, cap1, rfl, ⟨?_, (HRU.out w (Only.refl _ _)).2⟩, (((same_alloc hO1).setCell _ _ (fun h => absurd h (by simp))).setCell _ _ (fun h => absurd h (by simp))).setCell _ _ (fun h => absurd h (by simp)), fun k hk => by
      have := (hf1 k hk).1
      simp at this
      omega⟩
    refine (hown.keep (S := fun j => j = w.heap.size) ((((Only.refl (fun j => j = w.heap.size) _).setCell _ _ (fun _ => rfl)).setCell _ _ (fun _ => rfl)).setCell _ _ (fun _ => rfl)) (fun j hj e => ?_)).rd
    have := (hf1 j hj).1
    simp at this
    omega)
  clear hown hne hO1 hf1 hres
  go_wp2_with fail
  refine bodyPost_ret (v := .agg #[.int .u64 (f.M : Int), .int .u64 (f.K : Int), .slice a1 f.o.m cap1]) ?_ rfl HP.out
  simp [results, Try.results31, go_sem, r0, r1, r2]

/-- the bits at all locations, modulo M -/
def allAt (g : Nat → Bool) (M : Nat) (locs : List Nat) : Bool := locs.all fun x => g (x % M)
theorem allAt_take (g : Nat → Bool) (M : Nat) (locs : List Nat) (k : Nat) (hk : k < locs.length) (h : allAt g M (locs.take k) = true) : allAt g M (locs.take (k + 1)) = g (locs.getD k 0 % M) := by
  unfold allAt at *
  rw [List.take_succ_eq_append_getElem hk, List.all_append, h]
  simp [hk]
theorem allAt_no (g : Nat → Bool) (M : Nat) (locs : List Nat) (k : Nat) (hk : k < locs.length) (h : g (locs.getD k 0 % M) = false) : allAt g M locs = false := by
  unfold allAt
  rw [List.all_eq_false]
  exact ⟨locs[k], List.getElem_mem hk, by simpa [hk] using h⟩

set_option maxRecDepth 100000 in
set_option maxHeartbeats 1600000 in
theorem bl_testLocations (f : F) (d : List Bool) (a : Option Addr) (n cap : Nat) (ls : List Nat) (w : World) (h : f.ok w) (hr : f.o.rep d) (hM0 : 0 < f.M) (hM : f.M ≤ 1048576) (hl : RU w a n cap ls) (hlt : Ok ls) (hn : n ≤ 1048576) :
    Calls Try.prog 30 #[f.ptr, .slice a n cap] w (FV w (.bool (allAt (fun i => d.getD i false) f.M ls))) := by
  have H : Hid (∀ wx, Same w wx → f.ok wx) := Lib.hid (fun wx hx => h.keep hx (fun _ _ => id))
  have HR := Lib.hid hr
  have HL : Hid (∀ wx, Same w wx → RU wx a n cap ls) := Lib.hid (fun wx hx => hl.keep hx (fun _ _ => id))
  have HLen : Hid (ls.length = n) := Lib.hid hl.2
  have HOK := Lib.hid hlt
  have hbd := hl.1.bound
  clear h hr hl hlt
  unfold F.ptr
  go_enter Try.func30, Try.ntmps30
  go_wp2_with fail
  go_loopw [5] (fun i wr => ∃ k : Nat, k ≤ n ∧ i = .int .i64 (k : Int) ∧ Same w wr ∧ allAt (fun i => d.getD i false) f.M (ls.take k) = true) (fun i _ => n - (intOf i).toNat)
  case atStart => exact ⟨0, Nat.zero_le _, rfl, Only.refl _ _, rfl⟩
  case round =>
    obtain ⟨k, hk, rfl, hO, hall⟩ := hrel
    have HALL := Lib.hid hall
    have HO := Lib.hid hO
    clear hO hall
    obtain ⟨c0, c1, c2⟩ := (H.out wr HO.out).cells
    by_cases hlt : k < n
    · have hlt' : (k : Int) < (n : Int) := by omega
      obtain ⟨bb, off, rfl, hbb, hc⟩ := (HL.out wr HO.out).at (by omega)
      have c := hc k hlt
      have HX := Lib.hid (HOK.out.at k)
      obtain ⟨x, hx⟩ : ∃ x, ls.getD k 0 = x := ⟨_, rfl⟩
      rw [hx] at c HX
      have hx64 : (x : Int) < 18446744073709551616 := by have := HX.out; unfold Lt64 at this; omega
      have HM : Hid ((x : Int) % (f.M : Int) = ((x % f.M : Nat) : Int)) := Lib.hid (by omega)
      have hM1 : (1 : Int) ≤ (f.M : Int) := by omega
      have hxm : x % f.M < f.M := Nat.mod_lt _ hM0
      have HT : Hid (∀ wx, wx.heap = wr.heap → Calls Try.prog 46 #[.pointer (some ⟨f.o.p, 0, none⟩), .int .u64 ((x % f.M : Nat) : Int)] wx fun e w' => e = .returned (.bool (d.getD (x % f.M) false)) ∧ ∃ m, w' = wx.drewN m) := Lib.hid (fun wx hh => test f.o d (x % f.M) wx ((H.out wr HO.out).set.of_heap hh) HR.out (by omega))
      have HY := Lib.hid hx
      clear hc hx
      cases hg : d.getD (x % f.M) false
      · rw [hg] at HT
        have HN := Lib.hid (allAt_no (fun i => d.getD i false) f.M ls k (by rw [HLen.out]; exact hlt) (by show d.getD _ false = false; rw [HY.out]; exact hg))
        clear hg
        go_wp2_with fail
        go_quiet ((rw [HM.out]; go_at_call 46; exact Calls.quiet_of (HT.out _ rfl)))
        go_wp2
        go_ret
        exact ⟨by rw [HN.out]; rfl, HO.out.drewN _⟩
      · rw [hg] at HT
        have HN := Lib.hid (allAt_take (fun i => d.getD i false) f.M ls k (by rw [HLen.out]; exact hlt) HALL.out)
        have HG : Hid ((fun i => d.getD i false) (ls.getD k 0 % f.M) = true) := Lib.hid (by show d.getD _ false = true; rw [HY.out]; exact hg)
        clear hg
        go_wp2_with fail
        go_quiet ((rw [HM.out]; go_at_call 46; exact Calls.quiet_of (HT.out _ rfl)))
        go_wp2
        go_roundw
        case rel => exact ⟨k + 1, by omega, by go_num, HO.out.drewN _, by rw [HN.out]; exact HG.out⟩
        case measure => simp [intOf]; omega
    · obtain rfl : k = n := by omega
      have e : allAt (fun i => d.getD i false) f.M ls = true := by
        have := HALL.out
        rwa [List.take_of_length_le (by rw [HLen.out]; exact Nat.le_refl _)] at this
      have HE := Lib.hid e
      clear e
      go_wp2_with fail
      go_ret
      exact ⟨by rw [HE.out]; rfl, HO.out⟩
end Go.Proofs.Ytpiajkabikbdnaa.bs

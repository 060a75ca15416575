/-
  ClearAll of a bitset and of a Bloom filter; New; blNone.
-/
import Derived.Test.YtpiajkabikbdnaaBlOps
import Derived.WalkSpells
namespace Go.Proofs.Ytpiajkabikbdnaa.bs
open Go.RowKit Go.Proofs.Ytpiajkabikbdnaa.base Go.Proofs.Ytpiajkabikbdnaa.heap Go.Proofs.Ytpiajkabikbdnaa.bit
set_option linter.unusedVariables false

/-- the same bitset, with other words -/
def O.all (o : O) (ws : List Nat) : O := { o with ws := ws }
theorem all_zero {ws : List Nat} {m : Nat} (hl : ws.length = m) (h : ∀ j, j < m → ws.getD j 0 = 0) : ws = List.replicate m 0 := by
  apply List.ext_getElem?
  intro i
  rw [List.getElem?_replicate]
  by_cases hi : i < m
  · have := h i hi
    rw [if_pos hi, List.getElem?_eq_getElem (by omega)]
    simp only [List.getD_eq_getElem?_getD] at this
    rw [List.getElem?_eq_getElem (by omega)] at this
    simpa using this
  · rw [if_neg hi, List.getElem?_eq_none (by omega)]

set_option maxRecDepth 100000 in
set_option maxHeartbeats 1600000 in
theorem bs_clearAll (o : O) (w : World) (h : o.ok w) (hm : o.m ≤ 1048576) :
    Calls Try.prog 59 #[o.ptr] w fun e w' => e = .returned o.ptr ∧ (o.all (List.replicate o.m 0)).ok w' ∧ Only o.foot w w' := by
  have H := Lib.hid h
  obtain ⟨bb, hbb, hp, hb, hne, c0, c1, f0, f1, hcs, hfr, hbd1, hbd2⟩ := h.facts
  have HBB := Lib.hid hbb
  clear h hcs hfr f0 f1
  have hcmp : ∀ wx, (binOp .neq 23 (.slice (some ⟨bb, 0, none⟩) o.m o.cap) (.slice none 0 0)).run Try.prog wx = .ok (.bool true) wx := fun wx => run_neq_slice_nil_any _ _ _ _ _ _ _ _ Try.underlying23
  unfold O.ptr
  go_enter Try.func59, Try.ntmps59
  go_wp2_with fail
  go_loopw [3, 18] (fun _ i wr => ∃ (k : Nat) (o' : O), k ≤ o.m ∧ i = .int .i64 (k : Int) ∧ o'.p = o.p ∧ o'.n = o.n ∧ o'.a = o.a ∧ o'.m = o.m ∧ o'.cap = o.cap ∧ o'.ok wr ∧ (∀ j, j < k → o'.ws.getD j 0 = 0) ∧ Only o.foot w wr) (fun _ i _ => o.m - (intOf i).toNat)
  case atStart => exact ⟨0, o, Nat.zero_le _, rfl, rfl, rfl, rfl, rfl, rfl, H.out, fun j hj => absurd hj (by omega), Only.refl _ _⟩
  case round =>
    obtain ⟨k, o', hk, rfl, e1, e2, e3, e4, e5, hok, hz, hO⟩ := hrel
    obtain ⟨bb', hbb', hp', hb', hne', c0', c1', f0', f1', hcs, hfr, hbd1', hbd2'⟩ := hok.facts
    have hbe : bb' = bb := by rw [e3, HBB.out] at hbb'; cases hbb'; rfl
    subst hbe
    rw [e1, e4, e5] at c1'
    have HOK := Lib.hid hok
    have HZ := Lib.hid hz
    have HO := Lib.hid hO
    have HE : Hid (o'.p = o.p ∧ o'.n = o.n ∧ o'.a = o.a ∧ o'.m = o.m ∧ o'.cap = o.cap) := Lib.hid ⟨e1, e2, e3, e4, e5⟩
    by_cases hlt : k < o.m
    · have hlt' : (k : Int) < (o.m : Int) := by omega
      have c := hcs k (by omega)
      have fr := hfr k
      clear hok hz hO e1 e2 e3 e4 e5 hcs hfr c0' f0' f1' hbb' hbd1' hbd2'
      go_wp2_with fail
      go_roundw
      case rel =>
        obtain ⟨e1, e2, e3, e4, e5⟩ := HE.out
        refine ⟨k + 1, o'.store k 0, by omega, by go_num, e1, e2, e3, e4, e5, HOK.out.store (e3.trans HBB.out) (by omega) lt64_zero rfl, fun j hj => ?_, HO.out.setCell _ _ (fun _ => .inr (by rw [HBB.out]; rfl))⟩
        show (o'.ws.set k 0).getD j 0 = 0
        rw [getD_set]
        have hl := HOK.out.len
        split
        · rfl
        · exact HZ.out j (by omega)
      case measure => simp [intOf]; omega
    · obtain rfl : k = o.m := by omega
      have HP : Hid ((o.all (List.replicate o.m 0)).ok wr) := Lib.hid (by
        have hws := all_zero (by rw [HOK.out.len]; exact e4) hz
        obtain ⟨p, n, a, m, cap, ws⟩ := o'
        obtain ⟨p', n', a', m', cap', ws'⟩ := o
        dsimp only at e1 e2 e3 e4 e5 hws
        subst e1 e2 e3 e4 e5 hws
        exact HOK.out)
      clear hok hz hO e1 e2 e3 e4 e5 hcs hfr c0' f0' f1' hbb' hbd1' hbd2'
      go_wp2_with fail
      go_ret
      exact ⟨rfl, HP.out, HO.out⟩

theorem bl_max (y : Nat) (hy : y ≤ 1048576) (hy1 : 1 ≤ y) (w : World) : Calls Try.prog 57 #[.int .u64 1, .int .u64 (y : Int)] w fun e w' => e = .returned (.int .u64 (y : Int)) ∧ w = w' := by
  by_cases h : y = 1
  · subst h
    go_enter Try.func57, Try.ntmps57
    go_wp2
    go_ret
    exact ⟨rfl, rfl⟩
  · have h1 : ¬ (y : Int) < 1 := by omega
    go_enter Try.func57, Try.ntmps57
    go_wp2
    go_ret
    exact ⟨rfl, rfl⟩

set_option maxHeartbeats 800000 in
/-- a new Bloom filter -/
theorem bl_new (M K : Nat) (hM : M ≤ 1048576) (hM1 : 1 ≤ M) (hK : K ≤ 1048576) (hK1 : 1 ≤ K) (w : World) :
    Calls Try.prog 42 #[.int .u64 (M : Int), .int .u64 (K : Int)] w (FiltB K ((M + 63) / 64) (List.replicate M false) w) := by
  have HN := Lib.hid (fun wx => new M wx hM)
  go_enter Try.func42, Try.ntmps42
  go_wp2_with (first | ((with_reducible refine (bl_max M hM hM1 _).mono ?_); rintro e w' ⟨rfl, rfl⟩) | ((with_reducible refine (bl_max K hK hK1 _).mono ?_); rintro e w' ⟨rfl, rfl⟩))
  refine (HN.out _).mono ?_
  rintro e w1 ⟨o, rfl, hok, e1, e2, e3, e4, hO, hfr⟩
  obtain ⟨W, hW, hS, hB, hk⟩ := newBlock w1 #[.int .u64 (M : Int), .int .u64 (K : Int), .pointer (some ⟨o.p, 0, none⟩)] 76
  have hlt : ∀ k, o.foot k → k < w1.heap.size := hok.lt
  have HE : Hid (FiltB K ((M + 63) / 64) (List.replicate M false) w (.returned (.pointer (some ⟨w1.heap.size, 0, none⟩))) W) := Lib.hid (by
    have hsz := hO.size
    refine ⟨⟨w1.heap.size, M, K, o⟩, rfl, ⟨⟨hB, hok.keep hS (fun _ _ => id), fun h => ?_⟩, by simp, rfl, by simp [e1], by rw [e1, e2]; omega, by rw [List.length_replicate]; exact hM1, by rw [e2]; omega, fun i hi => ?_⟩, e2, Same.trans hO hS, fun k hk => ?_⟩
    · have := hlt _ h
      exact Nat.lt_irrefl _ this
    · show bit o.ws i = _
      rw [e3, bit_zeros, replicate_get]
    · rcases hk with rfl | hk
      · exact hsz
      · exact hfr k hk)
  rw [hW] at HE
  clear hok e1 e2 e3 e4 hO hfr hW hS hB hk hlt
  unfold O.ptr
  go_wp2_with fail
  go_ret
  exact HE.out

set_option maxHeartbeats 800000 in
theorem bl_clearAll (f : F) (K : Nat) (b : List Bool) (w : World) (h : FB f w K b) :
    Calls Try.prog 45 #[f.ptr] w (NewFB f K (List.replicate b.length false) f.ptr w) := by
  have HC := Lib.hid (bs_clearAll f.o w h.ok.set (by have := h.small; omega))
  have c2 := h.ok.cells.2.2
  have H := Lib.hid h
  clear h
  unfold F.ptr
  unfold O.ptr at HC
  go_enter Try.func45, Try.ntmps45
  go_wp2_with fail
  refine HC.out.mono ?_
  rintro e w1 ⟨rfl, hok, hO⟩
  have HE : Hid (NewFB f K (List.replicate b.length false) (.pointer (some ⟨f.p, 0, none⟩)) w (.returned (.pointer (some ⟨f.p, 0, none⟩))) w1) := Lib.hid (by
    refine ⟨⟨f.p, f.M, f.K, f.o.all (List.replicate f.o.m 0)⟩, rfl, ⟨rfl, rfl, rfl, rfl, rfl⟩, ⟨⟨hO.obj H.out.ok.obj H.out.ok.apart, hok, H.out.ok.apart⟩, by rw [List.length_replicate]; exact H.out.M, H.out.K, by rw [List.length_replicate]; exact H.out.le, H.out.room, by rw [List.length_replicate]; exact H.out.pos, H.out.small, fun i hi => ?_⟩, hO⟩
    show bit (List.replicate f.o.m 0) i = _
    rw [bit_zeros, replicate_get])
  clear hok hO
  go_wp2_with fail
  go_ret
  exact HE.out

set_option maxHeartbeats 800000 in
theorem blNone (M : Nat) (hM : M ≤ 1048576) (w : World) : Calls Try.prog 28 #[.int .u64 (M : Int)] w fun e w' => ∃ a c, e = .returned (.slice a M c) ∧ RB w' a M c (List.replicate M false) ∧ Same w w' := by
  have hmk := fun w => make_bools .u64 M (by omega) w
  have HR : Hid (∀ wx : World, RB (wx.alloc (.cells (madeCells #[.bool false] M) 4)) (some ⟨wx.heap.size, 0, none⟩) M M (List.replicate M false)) := Lib.hid (fun wx => by
    have := Own.of_block (size := 1) (heap_alloc_new wx (.cells (madeCells #[.bool false] M) 4)) M M (Nat.le_refl _) (by unfold maxLen; omega) (by rw [bools_size]; omega) (by rw [bools_list]; intro u hu; exact B_one _ u (List.mem_of_mem_take hu))
    rw [bools_list, List.take_of_length_le (by simp [B])] at this
    exact ⟨this.rd, by simp⟩)
  go_enter Try.func28, Try.ntmps28
  go_wp2_with fail
  go_ret
  exact ⟨_, _, rfl, HR.out w, (Only.refl _ w).alloc _⟩
end Go.Proofs.Ytpiajkabikbdnaa.bs

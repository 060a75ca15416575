/-
  The thin package's functions that list the bits of a bitset; append in a statement whose order is open.
-/
import Derived.Test.YtmadpemagfbmlaaDoorBsMany
import Derived.Test.YtmadpemagfbmlaaDoorBsSet64
import Derived.Deep.RegionHeld3
namespace Go.Proofs.YtmadpemagfbmlaaDoor.bs
open Go.RowKit Go.Proofs.YtmadpemagfbmlaaDoor.base Go.Proofs.YtmadpemagfbmlaaDoor.heap Go.Proofs.YtmadpemagfbmlaaDoor.bit
set_option linter.unusedVariables false

theorem Tab.lt {w : World} (h : Tab w) : 0 < w.heap.size := World.block_lt_of_cell? w _ (h 0 (by omega))
theorem Tab.same {w w' : World} (h : Tab w) (hO : Only (fun _ => False) w w') : Tab w' := h.keep h.lt hO id
theorem make_nums (kl kc : IntKind) (k : Nat) (hk : k ≤ 1048576) (w : World) : (Instr.makeSlice 23 (.int kl (k : Int)) (.int kc (k : Int))).run Tryd.prog w =
    .ok (.slice (some ⟨w.heap.size, 0, none⟩) k k) (w.alloc (.cells (zs k) 22)) := by
  have := make_eq (P := Tryd.prog) (e := 22) (size := 1) (t := 23) (z := .int .u64 0) (bytes := 8) kl kc Tryd.underlying23 (by kernel_rfl) k (by omega) (by omega) w
  rw [Nat.mul_one] at this
  exact this
theorem made_rw (k : Nat) (hk : k ≤ 1048576) (w : World) : Rw w.heap.size k [] (w.alloc (.cells (zs k) 22)) := by
  have h2 : (zs k).toList.take (k * 1) = U (List.replicate k 0) := by rw [zs_list]; exact List.take_of_length_le (by rw [U_len, List.length_replicate]; omega)
  have h3 := Own.made 22 1 w (zs k) k k (Nat.le_refl _) (by unfold maxLen; omega) (by rw [zs_size]; omega) (by rw [h2]; exact U_one _)
  rw [h2] at h3
  exact ⟨by simpa using h3, Nat.zero_le _⟩

set_option maxRecDepth 100000 in
set_option maxHeartbeats 1600000 in
theorem implAppendTo (v : Value) (b : List Bool) (l : List Nat) (a0 : Option Addr) (n0 cap0 : Nat) (w : World) (h : BV w v b) (hn : b.length ≤ 10000) (hl : RU w a0 n0 cap0 l) (hl2 : n0 ≤ 1000) (hT : Tab w) :
    Calls Tryd.prog 8 #[v, .slice a0 n0 cap0] w fun e w' => ∃ a cap, e = .returned (.slice a (l ++ ones b).length cap) ∧ RU w' a (l ++ ones b).length cap (l ++ ones b) ∧ Only (fun _ => False) w w' ∧ ∀ j, At a j → w.heap.size ≤ j ∧ j < w'.heap.size := by
  obtain ⟨a, m, cap, rfl, hr⟩ := h
  have hW : Only (fun _ => False) w (w.alloc (.cells #[.int .u64 (b.length : Int), .slice a m cap] 25)) := (Only.refl _ w).alloc _
  have HS := Lib.hid (set64 (.agg #[.int .u64 (b.length : Int), .slice a m cap]) b _ ⟨a, m, cap, rfl, hr.keep hW (fun _ _ => id)⟩ (by omega))
  have HW := Lib.hid hW
  have HL := Lib.hid hl
  have HT := Lib.hid hT
  clear hr hW hl hT
  go_enter Tryd.func8, Tryd.ntmps8
  go_wp2_with fail
  refine HS.out.mono ?_
  rintro e w1 ⟨o, rfl, hok, hrep, hm, hO1, hf1⟩
  have HO1 : Hid (Only (fun _ => False) w w1) := Lib.hid (HW.out.trans hO1 (fun _ _ f => f))
  have HOK := Lib.hid hok
  have HREP := Lib.hid hrep
  have hom : o.m ≤ 1000 := by omega
  clear hO1 hf1 hm hok hrep
  go_wp2_with (at_builtin; refine wpList_append n0 (U l) rfl _ _ _ _ rfl slUint rfl (Own.nil _ _ _) rfl ((HL.out.keep HO1.out (fun _ _ => id)).1.src Tryd.underlying23) (Nat.zero_add _) rfl (by unfold maxLen; omega) (by omega) ?_)
  intro a2 cap2 w2 hG
  have HO2 : Hid (Only (fun _ => False) w1 w2) := Lib.hid (hG.only.mono (fun k _ hk => hk))
  have HAT : Hid (∀ j, At a2 j → w1.heap.size ≤ j) := Lib.hid (fun j hj => by
    rcases hG.fresh j hj with h | h
    · exact h.elim
    · exact h)
  have HLN : Hid (l.length = n0) := Lib.hid HL.out.2
  have HC : Hid (Calls Tryd.prog 13 #[o.ptr, .slice a2 n0 cap2] w2 fun e w' => ∃ a' cap', e = .returned (.slice a' (l ++ ones b).length cap') ∧ RU w' a' (l ++ ones b).length cap' (l ++ ones b) ∧ Above w1.heap.size w2 w' ∧ ∀ j, At a' j → w1.heap.size ≤ j ∧ j < w'.heap.size) := Lib.hid (by
    have := appendTo o b l a2 cap2 w1.heap.size w2 (HOK.out.keep HO2.out (fun _ _ => id)) HREP.out ((HT.out.same HO1.out).same HO2.out) (by rw [HLN.out]; exact hG.own) hom (by rw [HLN.out]; exact hl2) HOK.out.lt (HT.out.same HO1.out).lt HO2.out.size HAT.out
    rwa [HLN.out] at this)
  clear hG
  obtain ⟨N, hN⟩ : ∃ N, (l ++ ones b).length = N := ⟨_, rfl⟩
  have HNN := Lib.hid hN
  rw [hN] at HC
  clear hN
  go_wp2_with fail
  refine HC.out.mono ?_
  rintro e w3 ⟨a3, cap3, rfl, hu3, hO3, hf3⟩
  have HF3 : Hid (∀ j, At a3 j → w.heap.size ≤ j ∧ j < w3.heap.size) := Lib.hid (fun j hj => by have := hf3 j hj; have := HO1.out.size; omega)
  have HU3 := Lib.hid hu3
  have HO3 : Hid (Only (fun _ => False) w w3) := Lib.hid ((HO1.out.trans HO2.out (fun _ _ f => f)).trans hO3 (fun j hj h => by have := HO1.out.size; omega))
  clear hu3 hO3 hf3
  go_wp2_with fail
  go_ret
  exact ⟨a3, cap3, by rw [HNN.out]; rfl, by rw [HNN.out]; exact HU3.out, HO3.out, HF3.out⟩

set_option maxRecDepth 100000 in
set_option maxHeartbeats 1600000 in
theorem implAsSlice (v : Value) (b : List Bool) (w : World) (h : BV w v b) (hn : b.length ≤ 10000) (hT : Tab w) :
    Calls Tryd.prog 9 #[v] w fun e w' => ∃ a cap, e = .returned (.slice a (ones b).length cap) ∧ RU w' a (ones b).length cap (ones b) ∧ Only (fun _ => False) w w' := by
  obtain ⟨a, m, cap, rfl, hr⟩ := h
  have hW : Only (fun _ => False) w (w.alloc (.cells #[.int .u64 (b.length : Int), .slice a m cap] 25)) := (Only.refl _ w).alloc _
  have HS := Lib.hid (set64 (.agg #[.int .u64 (b.length : Int), .slice a m cap]) b _ ⟨a, m, cap, rfl, hr.keep hW (fun _ _ => id)⟩ (by omega))
  have HW := Lib.hid hW
  have HT := Lib.hid hT
  clear hr hW hT
  go_enter Tryd.func9, Tryd.ntmps9
  go_wp2_with fail
  refine HS.out.mono ?_
  rintro e w1 ⟨o, rfl, hok, hrep, hm, hO1, hf1⟩
  have HO1 : Hid (Only (fun _ => False) w w1) := Lib.hid (HW.out.trans hO1 (fun _ _ f => f))
  have HOK := Lib.hid hok
  have HREP := Lib.hid hrep
  have hom : o.m ≤ 1000 := by omega
  obtain ⟨C, hC⟩ : ∃ C, (ones b).length = C := ⟨_, rfl⟩
  have hCb : C ≤ 10000 := by have := ones_le b; omega
  have HC0 : Hid (Calls Tryd.prog 15 #[o.ptr] w1 fun e w' => e = .returned (.int .u64 (C : Int)) ∧ ∃ q, w' = w1.drewN q) := Lib.hid (by
    have := count o b w1 hok hrep (by omega)
    rwa [hC] at this)
  have HC := Lib.hid hC
  clear hO1 hf1 hm hok hrep hC
  have hmk : ∀ wx, (Instr.makeSlice 23 (.int .u64 (C : Int)) (.int .u64 (C : Int))).run Tryd.prog wx = .ok (.slice (some ⟨wx.heap.size, 0, none⟩) C C) (wx.alloc (.cells (zs C) 22)) := fun wx => make_nums .u64 .u64 C (by omega) wx
  go_wp2_with fail
  refine HC0.out.mono ?_
  rintro e w2 ⟨rfl, q, rfl⟩
  have HA : Hid (Calls Tryd.prog 14 #[o.ptr, .slice (some ⟨w1.heap.size, 0, none⟩) C C] ((w1.drewN q).alloc (.cells (zs C) 22)) fun e w' => e = .returned (.slice (some ⟨w1.heap.size, 0, none⟩) C C) ∧ RU w' (some ⟨w1.heap.size, 0, none⟩) C C (ones b) ∧ Above w1.heap.size ((w1.drewN q).alloc (.cells (zs C) 22)) w') := Lib.hid (by
    have hO : Only (fun _ => False) w1 ((w1.drewN q).alloc (.cells (zs C) 22)) := ((Only.refl _ w1).drewN q).alloc _
    exact asSlice o b w1.heap.size C w1.heap.size _ (HOK.out.keep hO (fun _ _ => id)) HREP.out ((HT.out.same HO1.out).same hO) HC.out (made_rw C (by omega) (w1.drewN q)) hom HOK.out.lt (HT.out.same HO1.out).lt hO.size (Nat.le_refl _))
  go_wp2_with fail
  refine HA.out.mono ?_
  rintro e w3 ⟨rfl, hu3, hO3⟩
  have HU3 := Lib.hid hu3
  have HO3 : Hid (Only (fun _ => False) w w3) := Lib.hid ((HO1.out.trans (((Only.refl (fun _ => False) w1).drewN q).alloc _) (fun _ _ f => f)).trans hO3 (fun j hj h => by have := HO1.out.size; omega))
  clear hu3 hO3
  go_wp2_with fail
  go_ret
  exact ⟨some ⟨w1.heap.size, 0, none⟩, C, by rw [HC.out]; rfl, by rw [HC.out]; exact HU3.out, HO3.out⟩

/-- what NextSetMany returns, of the thin package -/
def FMany (b : List Bool) (i C : Nat) (w : World) (e : Ending) (w' : World) : Prop := ∃ a n cap v, e = .returned (.tuple #[.slice a n cap, .int .u64 (v : Nat)]) ∧ RU w' a n cap (Many b i C) ∧ Only (fun _ => False) w w'
set_option maxRecDepth 100000 in
set_option maxHeartbeats 3200000 in
theorem implNextSetMany (v : Value) (b : List Bool) (i C : Nat) (w : World) (h : BV w v b) (hn : b.length ≤ 10000) (hT : Tab w) (hi : i ≤ 60000) (hC1 : 1 ≤ C) (hC2 : C ≤ 1000) :
    Calls Tryd.prog 6 #[v, .int .u64 (i : Int), .int .u64 (C : Int)] w (FMany b i C w) := by
  obtain ⟨a, m, cap, rfl, hr⟩ := h
  obtain ⟨W1, hW1, hS1, hB1, hk1⟩ := newBlock w #[.int .u64 (b.length : Int), .slice a m cap] 25
  have HBV : Hid (∀ wx, Only (fun _ => False) w wx → BV wx (.agg #[.int .u64 (b.length : Int), .slice a m cap]) b) := Lib.hid (fun wx hx => ⟨a, m, cap, rfl, hr.keep hx (fun _ _ => id)⟩)
  have HT := Lib.hid hT
  have HMK : Hid (∀ wx, (Instr.makeSlice 23 (.int .u64 (C : Int)) (.int .u64 (C : Int))).run Tryd.prog wx = .ok (.slice (some ⟨wx.heap.size, 0, none⟩) C C) (wx.alloc (.cells (zs C) 22))) := Lib.hid (fun wx => make_nums .u64 .u64 C (by omega) wx)
  have hmk := HMK.out
  have HS1 := Lib.hid hS1
  have HC : Hid (∀ wx, Only (fun _ => False) W1 wx → wx.cell? ⟨w.heap.size, 0, none⟩ = some (.int .u64 (b.length : Int)) ∧ wx.cell? ⟨w.heap.size, 1, none⟩ = some (.slice a m cap)) := Lib.hid (fun wx hx => ⟨block_cell (hx.obj hB1 id) rfl, block_cell (hx.obj hB1 id) rfl⟩)
  have H1 : Hid (∀ wx, Only (fun _ => False) W1 wx → Calls Tryd.prog 11 #[.agg #[.int .u64 (b.length : Int), .slice a m cap]] wx fun e w' => ∃ o : O, e = .returned o.ptr ∧ Hid (o.ok w' ∧ o.rep b ∧ o.m ≤ 1000 ∧ ∀ k, o.foot k → wx.heap.size ≤ k ∧ k < w'.heap.size) ∧ Only (fun _ => False) wx w' ∧ Only (fun _ => False) W1 w') := Lib.hid (fun wx hx =>
    (set64 _ b wx (HBV.out wx (Same.trans hS1 hx)) (by omega)).mono fun e w' ⟨o, he, hok, hrep, hm, hO, hf⟩ => ⟨o, he, Lib.hid ⟨hok, hrep, by omega, fun k hk => ⟨hf k hk, hok.lt k hk⟩⟩, hO, hx.trans hO (fun _ _ f => f)⟩)
  have H2 : Hid (∀ (o : O) (g : Nat) (wx : World), o.ok wx → o.rep b → o.m ≤ 1000 → Rw g C [] wx → Only (fun _ => False) W1 wx → W1.heap.size ≤ g → ¬ o.foot g → Calls Tryd.prog 12 #[o.ptr, .int .u64 (i : Int), .slice (some ⟨g, 0, none⟩) C C] wx fun e w' => ∃ v n : Nat, e = .returned (.tuple #[.int .u64 (v : Int), .slice (some ⟨g, 0, none⟩) n C]) ∧ Hid (RU w' (some ⟨g, 0, none⟩) n C (Many b i C)) ∧ Only (fun _ => False) W1 w') := Lib.hid (fun o g wx h1 h2 h3 h4 h5 h6 h7 => by
    have h5' := Same.trans hS1 h5
    have ht := HT.out.same h5'
    have hl := (HT.out.same hS1).lt
    exact (nextSetMany o b i g C wx h1 h2 ht hC1 hC2 h4 h3 hi ht.lt (by omega) h7).mono fun e w' ⟨v, n, he, hu, hO⟩ => ⟨v, n, he, Lib.hid hu, Only.trans (S := fun _ => False) h5 hO (fun j hj e => by omega)⟩)
  -- the bitset first, the row behind it
  have HA : Hid (∀ (o : O) (w2 : World) (wp : World), Hid (o.ok w2 ∧ o.rep b ∧ o.m ≤ 1000 ∧ ∀ k, o.foot k → wp.heap.size ≤ k ∧ k < w2.heap.size) → Only (fun _ => False) W1 w2 → Calls Tryd.prog 12 #[o.ptr, .int .u64 (i : Int), .slice (some ⟨w2.heap.size, 0, none⟩) C C] (w2.alloc (.cells (zs C) 22)) fun e w' => ∃ v n : Nat, e = .returned (.tuple #[.int .u64 (v : Int), .slice (some ⟨w2.heap.size, 0, none⟩) n C]) ∧ Hid (RU w' (some ⟨w2.heap.size, 0, none⟩) n C (Many b i C)) ∧ Only (fun _ => False) W1 w') := Lib.hid (fun o w2 wp ho h => by
    have hO : Only (fun _ => False) w2 (w2.alloc (.cells (zs C) 22)) := (Only.refl _ w2).alloc _
    have := h.size
    exact H2.out o w2.heap.size _ (ho.out.1.keep hO (fun _ _ => id)) ho.out.2.1 ho.out.2.2.1 (made_rw C (by omega) w2) (h.trans hO (fun _ _ f => f)) (by omega) (fun hk => by have := (ho.out.2.2.2 _ hk).2; omega))
  -- the row first
  have HB : Hid (∀ (o : O) (w2 : World), Hid (o.ok w2 ∧ o.rep b ∧ o.m ≤ 1000 ∧ ∀ k, o.foot k → (W1.alloc (.cells (zs C) 22)).drew.heap.size ≤ k ∧ k < w2.heap.size) → Only (fun _ => False) (W1.alloc (.cells (zs C) 22)).drew w2 → Calls Tryd.prog 12 #[o.ptr, .int .u64 (i : Int), .slice (some ⟨W1.heap.size, 0, none⟩) C C] w2 fun e w' => ∃ v n : Nat, e = .returned (.tuple #[.int .u64 (v : Int), .slice (some ⟨W1.heap.size, 0, none⟩) n C]) ∧ Hid (RU w' (some ⟨W1.heap.size, 0, none⟩) n C (Many b i C)) ∧ Only (fun _ => False) W1 w') := Lib.hid (fun o w2 ho h => by
    have h := h.undrew
    have hO : Only (fun _ => False) W1 w2 := Only.trans (S := fun _ => False) ((Only.refl _ W1).alloc _) h (fun _ _ f => f)
    have hr := made_rw C (by omega) W1
    exact H2.out o W1.heap.size _ ho.out.1 ho.out.2.1 ho.out.2.2.1 ⟨hr.1.keep h (fun _ _ => id), hr.2⟩ hO (Nat.le_refl _) (fun hk => by
      have h9 := (ho.out.2.2.2 _ hk).1
      have h8 : (W1.alloc (.cells (zs C) 22)).drew.heap.size = W1.heap.size + 1 := by simp [World.drew]
      rw [h8] at h9
      omega))
  clear hr hT hS1 H2 hk1
  go_enter Tryd.func6, Tryd.ntmps6
  go_wp2_with fail
  rw [← hW1]
  have c0 : W1.cell? ⟨w.heap.size, 0, none⟩ = some (.int .u64 (b.length : Int)) := block_cell hB1 rfl
  have c1 : W1.cell? ⟨w.heap.size, 1, none⟩ = some (.slice a m cap) := block_cell hB1 rfl
  clear hW1 hB1
  go_region_held3 (fun w' => w'.cell? ⟨w.heap.size, 0, none⟩ = some (.int .u64 (b.length : Int)) ∧ w'.cell? ⟨w.heap.size, 1, none⟩ = some (.slice a m cap))
    (first | exact HC.out _ (by repeat (first | assumption | exact Only.refl _ _ | apply Only.drew | apply Only.alloc)))
    (first
      | ((go_at_call 11; (with_reducible refine (H1.out _ (by repeat (first | assumption | exact Only.refl _ _ | apply Only.drew | apply Only.alloc))).mono ?_); rintro e w2 ⟨o, rfl, ho2, hO2, hO2'⟩))
      | ((go_at_call 12; (with_reducible refine (HA.out _ _ _ ho2 hO2').mono ?_); rintro e w3 ⟨v, n, rfl, hu3, hO3⟩))
      | ((go_at_call 12; (with_reducible refine (HB.out _ _ ho2 hO2).mono ?_); rintro e w3 ⟨v, n, rfl, hu3, hO3⟩)))
  all_goals
    go_wp2_with fail
    go_ret2
    exact ⟨_, _, _, _, rfl, hu3.out, Same.trans HS1.out hO3⟩
end Go.Proofs.YtmadpemagfbmlaaDoor.bs

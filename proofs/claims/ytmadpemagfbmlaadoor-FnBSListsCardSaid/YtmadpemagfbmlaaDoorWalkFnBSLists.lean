/-
  FnBSLists: the walk.
-/
import Derived.Test.YtmadpemagfbmlaaDoorBsLLaw
import Derived.Deep.RegionHeld3
import Derived.Deep.CutRange
namespace Go.Proofs.YtmadpemagfbmlaaDoor.walkFnBSLists
open Go.RowKit Go.Proofs.YtmadpemagfbmlaaDoor.base Go.Proofs.YtmadpemagfbmlaaDoor.heap Go.Proofs.YtmadpemagfbmlaaDoor.bit Go.Proofs.YtmadpemagfbmlaaDoor.bs
set_option linter.unusedVariables false

set_option maxRecDepth 100000 in
set_option maxHeartbeats 12800000 in
theorem main (n : Nat) (a : Option Addr) (m cap : Nat) (zs : List Int) (p q : Nat) (a0 : Option Addr) (m0 cap0 : Nat) (zs0 : List Int) (w : World) (hr : IsRow .u64 w a m cap zs) (hm : m ≤ 2147483647) (hp : p < 65536) (hq : q < 256) (hr0 : IsRow .u64 w a0 m0 cap0 zs0) (hm0 : m0 ≤ 2147483647) (hT : Tab w) :
    Calls Tryd.prog 3 #[.agg #[.int .u64 (n : Int), .slice a m cap], .int .u16 (p : Int), .int .u8 (q : Int), .slice a0 m0 cap0] w fun e w' => e = .returned (.bool true) ∧ Below w.heap.size w w' := by
  have HRow := Lib.hid hr
  have HRow0 := Lib.hid hr0
  have HT := Lib.hid hT
  have hbd0 := hr0.le
  clear hr hr0 hT
  go_enter Tryd.func3, Tryd.ntmps3
  have hm0' : ¬ (2147483647 : Int) < (m0 : Int) := by omega
  go_wp2_with fail
  refine (fits_yes _ _ _ _ _ hm).mono ?_
  rintro e w1 ⟨rfl, hO1⟩
  have hB0 := boxed hO1
  have hO1 := same_alloc hO1
  have c0 : w1.cell? ⟨w.heap.size, 0, none⟩ = some (.int .u64 (n : Int)) := block_cell hB0 rfl
  have c1 : w1.cell? ⟨w.heap.size, 1, none⟩ = some (.slice a m cap) := block_cell hB0 rfl
  clear hB0
  go_wp2_with fail
  refine (bsBits n a m cap zs _ (IsRow.keep HRow.out hO1) hm).mono ?_
  rintro e w2 ⟨b, hb, a2, m2, cap2, rfl, hu2, hO2, hf2⟩
  have hb4 : b.length ≤ 400 := by omega
  have hO2 := hO1.trans hO2
  obtain ⟨i, hi⟩ : ∃ i : Nat, p % 500 = i := ⟨_, rfl⟩
  have hi1 : i < 500 := by rw [← hi]; exact Nat.mod_lt _ (by omega)
  have HI : Hid ((p : Int) % 500 = (i : Int)) := Lib.hid (by omega)
  obtain ⟨C, hC⟩ : ∃ C : Nat, 1 + q % 80 = C := ⟨_, rfl⟩
  have hC1 : 1 ≤ C ∧ C ≤ 80 := by omega
  have HCI : Hid (1 + (q : Int) % 80 = (C : Int)) := Lib.hid (by omega)
  clear hO1 hb c0 c1 hf2 hi hC
  go_upto_region 4 with fail
  obtain ⟨W5, hW5, hS5, hB5, hk5⟩ := newBlock w2 #[.int .u64 (b.length : Int), .slice a2 m2 cap2] 25
  rw [← hW5]
  rw [HI.out, HCI.out]
  have hBV : ∀ wx, Same W5 wx → BV wx (.agg #[.int .u64 (b.length : Int), .slice a2 m2 cap2]) b := fun wx hx => BV.mk (hu2.keep (hS5.trans hx) (fun _ _ => id))
  have HBV := Lib.hid hBV
  have HO5 : Hid (Same w W5) := Lib.hid (Same.trans hO2 hS5)
  have HU5 : Hid (∀ wx, Same W5 wx → RU wx a2 m2 cap2 (ones b)) := Lib.hid (fun wx hx => hu2.keep (hS5.trans hx) (fun _ _ => id))
  have HL : Hid ((ones b).length = m2) := Lib.hid hu2.2
  have HB5 := Lib.hid hB5
  have HC5 : Hid (∀ wx, Same W5 wx → wx.cell? ⟨w2.heap.size, 0, none⟩ = some (.int .u64 (b.length : Int)) ∧ wx.cell? ⟨w2.heap.size, 1, none⟩ = some (.slice a2 m2 cap2)) := Lib.hid (fun wx hx => ⟨block_cell (still hx hB5) rfl, block_cell (still hx hB5) rfl⟩)
  have HTW : Hid (∀ wx, Same W5 wx → Tab wx) := Lib.hid (fun wx hx => (HT.out.same HO5.out).same hx)
  have HR0 : Hid (∀ wx, Same W5 wx → IsRow .u64 wx a0 m0 cap0 zs0) := Lib.hid (fun wx hx => IsRow.keep HRow0.out (Same.trans HO5.out hx))
  generalize w2.heap.size = k5 at *
  clear hu2 hO2 hBV hW5 hS5 hk5 hB5
  have hmb : m2 ≤ 400 := by have := HL.out; have := ones_le b; omega
  go_upto_if 35 with fail
  go_cut [3] from 36 (fun s wx => ∃ n0 : Nat, s = .slice a0 n0 cap0 ∧ n0 ≤ 10 ∧ n0 ≤ m0 ∧ wx = W5)
  case first =>
    by_cases h10 : 10 < m0
    · have h10' : (10 : Int) < (m0 : Int) := by omega
      have h10c : (10 : Int) ≤ (cap0 : Int) := by omega
      go_wp2_with fail
      go_meet
      case rel => exact ⟨10, rfl, by omega, by omega, rfl⟩
    · have h10' : ¬ (10 : Int) < (m0 : Int) := by omega
      go_wp2_with fail
      go_meet
      case rel => exact ⟨m0, rfl, by omega, by omega, rfl⟩
  case rest =>
    obtain ⟨n0, rfl, hn0, hn0m, hwc⟩ := hcut
    subst hwc
    obtain ⟨l0, hl0⟩ := IsRow.first (HR0.out wc (Only.refl _ _)) n0 hn0m
    have HL0 := Lib.hid hl0
    clear hl0
    go_wp2_with fail
    go_loopw [12, 13] (fun s j wr => ∃ (k n1 : Nat) (a1 : Option Addr) (cap1 : Nat), k ≤ m2 ∧ j = .int .i64 (k : Int) ∧ s = .slice a1 n1 cap1 ∧ n1 ≤ C ∧ Hid ((Lk b i k).length = n1 ∧ Own 22 1 wr a1 n1 cap1 (U (Lk b i k)) ∧ (∀ j, At a1 j → wc.heap.size ≤ j) ∧ Same wc wr)) (fun _ j _ => m2 - (intOf j).toNat)
    case atStart => exact ⟨0, 0, none, 0, Nat.zero_le _, rfl, rfl, Nat.zero_le _, Lib.hid ⟨rfl, Own.nil _ _ _, fun j hj => hj.elim, Only.refl _ _⟩⟩
    case round =>
      obtain ⟨k, n1, a1, cap1, hk, rfl, rfl, hn1, hrel⟩ := hrel
      obtain ⟨x0, x1⟩ := HC5.out wr hrel.out.2.2.2
      by_cases hgo : k < m2 ∧ n1 < C
      · obtain ⟨hkm, hnC⟩ := hgo
        have hkm' : (k : Int) < (m2 : Int) := by omega
        have hnC' : (n1 : Int) < (C : Int) := by omega
        obtain ⟨ab, off, rfl, hab, hac⟩ := (HU5.out wr hrel.out.2.2.2).at (by omega)
        have y0 := hac k hkm
        have HYES : Hid (i ≤ (ones b).getD k 0 → Lk b i (k + 1) = Lk b i k ++ [(ones b).getD k 0]) := Lib.hid (Lk.yes (by rw [HL.out]; exact hkm))
        have HNO : Hid (¬ i ≤ (ones b).getD k 0 → Lk b i (k + 1) = Lk b i k) := Lib.hid (Lk.no (by rw [HL.out]; exact hkm))
        clear hac hab
        generalize (ones b).getD k 0 = x at *
        by_cases hix : i ≤ x
        · have hix' : (i : Int) ≤ (x : Int) := by omega
          have HG2 := Lib.hid (HYES.out hix)
          go_wp2_with (at_builtin; refine wpList_append (n1 + 1) (U (Lk b i k) ++ [.int .u64 (x : Int)]) rfl _ _ _ _ rfl slUint rfl (hrel.out.2.1.keep (S := fun _ => False) (by repeat (first | exact Only.refl _ _ | apply Only.alloc | apply Only.drewN)) (fun _ _ => id)) rfl (Src.row (cs := #[.int .u64 (x : Int)]) (t := 22) (fr := (0, 0)) Tryd.underlying23 (heap_alloc_new' _ _ _ (by simp)) 1 1 rfl (by simp [Value.oneCell'])) rfl rfl (by unfold maxLen; omega) (by omega) ?_)
          intro a' cap' w2 hG
          have HGR := Lib.hid hG
          clear hG
          go_wp2_with fail
          go_roundw
          case rel =>
            refine ⟨k + 1, n1 + 1, a', cap', by omega, by go_num, by go_num, by omega, Lib.hid ⟨?_, ?_, fun j hj => ?_, ?_⟩⟩
            · rw [HG2.out, List.length_append, hrel.out.1]; rfl
            · rw [HG2.out, ← U_app]; exact HGR.out.own
            · have hsz := hrel.out.2.2.2.size
              rcases HGR.out.fresh j hj with h | h
              · exact hrel.out.2.2.1 j h
              · simp at h; omega
            · exact Only.trans (S := fun _ => False) hrel.out.2.2.2 (((Only.refl (At a1) _).alloc _).trans HGR.out.only (fun _ _ h => h)) (fun j hj h => by have := hrel.out.2.2.1 j h; omega)
          case measure => simp [intOf]; omega
        · have hix' : ¬ (i : Int) ≤ (x : Int) := by omega
          have HG2 := Lib.hid (HNO.out hix)
          go_wp2_with fail
          go_roundw
          case rel => exact ⟨k + 1, n1, a1, cap1, by omega, by go_num, rfl, hn1, Lib.hid (by rw [HG2.out]; exact hrel.out)⟩
          case measure => simp [intOf]; omega
      · have hgo' : decide ((k : Int) < (m2 : Int)) = false ∨ (decide ((k : Int) < (m2 : Int)) = true ∧ decide ((n1 : Int) < (C : Int)) = false) := by
          by_cases h1 : k < m2
          · have h2 : ¬ n1 < C := fun h => hgo ⟨h1, h⟩
            exact .inr ⟨by simpa using h1, by simpa using h2⟩
          · exact .inl (by simpa using h1)
        have HMANY : Hid (Many b i C = Lk b i k) := Lib.hid (by
          by_cases h1 : n1 = C
          · exact Lk.full (by rw [hrel.out.1, h1])
          · have h2 : k = (ones b).length := by have := HL.out; omega
            subst h2
            exact Lk.all (by rw [hrel.out.1]; exact hn1))
        have HSOME : Hid (∀ wx, Same wr wx → RU wx a1 n1 cap1 (Many b i C)) := Lib.hid (fun wx hx => by
          rw [HMANY.out]
          exact RU.keep ⟨hrel.out.2.1.rd, hrel.out.1⟩ hx (fun _ _ => id))
        have HS4 : Hid (Same wc wr) := Lib.hid hrel.out.2.2.2
        clear hrel HMANY
        rcases hgo' with h1 | ⟨h1, h2⟩
        · have h1' : ¬ (k : Int) < (m2 : Int) := by simpa using h1
          go_wp2_with fail
          refine (implNextSetMany _ b i C wr (HBV.out _ HS4.out) (by omega) (HTW.out _ HS4.out) (by omega) hC1.1 (by omega)).mono ?_
          rintro e w4 ⟨a4, n4, cap4, vv, rfl, hu4, hO4⟩
          have HSC : Hid (Same wc w4) := Lib.hid (Same.trans HS4.out hO4)
          have HGOT : Hid (∀ wx, Same w4 wx → RU wx a4 n4 cap4 (Many b i C)) := Lib.hid (fun wx hx => hu4.keep hx (fun _ _ => id))
          have HSOM : Hid (∀ wx, Same w4 wx → RU wx a1 n1 cap1 (Many b i C)) := Lib.hid (fun wx hx => HSOME.out wx (Same.trans hO4 hx))
          have HBEF : Hid (∀ wx, Same w4 wx → RU wx a0 n0 cap0 l0) := Lib.hid (fun wx hx => HL0.out.keep (Same.trans HSC.out hx) (fun _ _ => id))
          have HIN : Hid (∀ wx, Same w4 wx → RU wx a2 m2 cap2 (ones b)) := Lib.hid (fun wx hx => HU5.out wx (Same.trans HSC.out hx))
          have HCW : Hid (∀ wx, Same w4 wx → wx.cell? ⟨k5, 0, none⟩ = some (.int .u64 (b.length : Int)) ∧ wx.cell? ⟨k5, 1, none⟩ = some (.slice a2 m2 cap2)) := Lib.hid (fun wx hx => HC5.out wx (Same.trans HSC.out hx))
          have H1 : Hid (∀ wx, Same w4 wx → Calls Tryd.prog 8 #[.agg #[.int .u64 (b.length : Int), .slice a2 m2 cap2], .slice a0 n0 cap0] wx fun e w' => ∃ a' cap', e = .returned (.slice a' (n0 + m2) cap') ∧ Hid (RU w' a' (n0 + m2) cap' (l0 ++ ones b)) ∧ Hid (∀ j, At a' j → wx.heap.size ≤ j ∧ j < w'.heap.size) ∧ Hid (Same wx w') ∧ Same w4 w') := Lib.hid (fun wx hx =>
            (implAppendTo _ b l0 a0 n0 cap0 wx (HBV.out wx (Same.trans HSC.out hx)) (by omega) (HBEF.out wx hx) (by omega) (HTW.out wx (Same.trans HSC.out hx))).mono fun e w' ⟨a', cap', he, hu, hO, hf⟩ => by
              have hn : (l0 ++ ones b).length = n0 + m2 := by rw [List.length_append, (HBEF.out wx hx).2, HL.out]
              rw [hn] at he hu
              exact ⟨a', cap', he, Lib.hid hu, Lib.hid hf, Lib.hid hO, Same.trans hx hO⟩)
          have H2 : Hid (∀ wx, Same w4 wx → Calls Tryd.prog 9 #[.agg #[.int .u64 (b.length : Int), .slice a2 m2 cap2]] wx fun e w' => ∃ a' cap', e = .returned (.slice a' m2 cap') ∧ Hid (RU w' a' m2 cap' (ones b)) ∧ Same w4 w') := Lib.hid (fun wx hx =>
            (implAsSlice _ b wx (HBV.out wx (Same.trans HSC.out hx)) (by omega) (HTW.out wx (Same.trans HSC.out hx))).mono fun e w' ⟨a', cap', he, hu, hO⟩ => by
              rw [HL.out] at he hu
              exact ⟨a', cap', he, Lib.hid hu, Same.trans hx hO⟩)
          have H3 : Hid (∀ (wx : World) (a : Option Addr) (n cap : Nat) (a' : Option Addr) (n' cap' : Nat) (L : List Nat), RU wx a n cap L → RU wx a' n' cap' L → n ≤ 1000 → Same w4 wx → Calls Tryd.prog 7 #[.slice a n cap, .slice a' n' cap'] wx fun e w' => e = .returned (.bool true) ∧ Same w4 w') := Lib.hid (fun wx a n cap a' n' cap' L h h' hn hx =>
            (bsList_yes a a' n n' cap cap' L wx h h' (by omega)).mono fun e w' ⟨he, q, hw⟩ => ⟨he, by rw [hw]; exact hx.drewN q⟩)
          have hn4 : n4 ≤ 1000 := by
            have h1 := (HGOT.out w4 (Only.refl _ _)).2
            unfold Many at h1
            rw [List.length_take] at h1
            omega
          have HLEN : Hid ((l0 ++ ones b).length = n0 + m2) := Lib.hid (by rw [List.length_append, (HBEF.out w4 (Only.refl _ _)).2, HL.out])
          have HLL : Hid (U l0 ++ U (ones b) = U (l0 ++ ones b)) := Lib.hid (U_app _ _)
          obtain ⟨y0, y1⟩ := HCW.out w4 (Only.refl _ _)
          clear hu4 hO4 x0 x1 HSOME HL0
          go_upto_region 13 with fail
          go_region_held3 (fun w' => w'.cell? ⟨k5, 0, none⟩ = some (.int .u64 (b.length : Int)) ∧ w'.cell? ⟨k5, 1, none⟩ = some (.slice a2 m2 cap2))
            (first | exact HCW.out _ (by repeat (first | assumption | exact Only.refl _ _ | apply Only.drew | apply Only.alloc)))
            (first
              | ((go_at_call 8; (with_reducible refine (H1.out _ (by repeat (first | assumption | exact Only.refl _ _ | apply Only.drew | apply Only.alloc))).mono ?_); rintro e w6 ⟨a6, cap6, rfl, hu6, hf6, hO6, hS6⟩))
              | ((refine step_append n0 (U l0) (by rfl) _ _ _ _ (by rfl) slUint (by rfl) (own_empty _ (default : World) _ _ (by first | exact heap_alloc_new' _ _ _ (by simp) | exact hO6.out.obj (heap_alloc_new' _ _ _ (by simp)) id)) (by rfl) (Rd.src (HBEF.out _ (by repeat (first | assumption | exact Only.refl _ _ | apply Only.drew | apply Only.alloc))).1 Tryd.underlying23) (Nat.zero_add _) rfl (by unfold maxLen; omega) (by omega) ?_; intro a7 cap7 w7 hG; have hS7 : Same w4 w7 := Only.trans (S := fun _ => False) (show Same w4 _ by repeat (first | assumption | exact Only.refl _ _ | apply Only.drew | apply Only.alloc)) hG.only (fun j hj h => by simp [At] at h; first | omega | (have := hS6.size; omega)); have hG7 := Lib.hid hG; clear hG))
              | ((refine step_append (n0 + m2) (U (l0 ++ ones b)) (by rfl) _ _ _ _ (by rfl) slUint (by rfl) (by first | exact hG7.out.own.of_heap rfl | exact (hG7.out.own.keep hO6.out (fun _ _ => id)).of_heap rfl) (by rfl) (Rd.src (HIN.out _ (by repeat (first | assumption | exact Only.refl _ _ | apply Only.drew | apply Only.alloc))).1 Tryd.underlying23) rfl HLL.out (by unfold maxLen; omega) (by omega) ?_; intro a8 cap8 w8 hG; have hS8 : Same w4 w8 := Only.trans (S := fun _ => False) (show Same w4 _ by repeat (first | assumption | exact Only.refl _ _ | apply Only.drew | apply Only.alloc)) hG.only (fun j hj h => by rcases hG7.out.fresh j h with h | h <;> (try simp [At] at h) <;> first | omega | (have := hS6.size; omega)); have hG8 := Lib.hid hG; clear hG))
              | ((go_at_call 7; (with_reducible refine (H3.out _ a6 (n0 + m2) cap6 a8 (n0 + m2) cap8 (l0 ++ ones b) (by first
                | exact way_one hu6.out hf6.out hG7.out hG8.out
                | exact way_two (o := .cells #[] 22) hu6.out hf6.out (by simp) hG7.out hG8.out
                | exact way_three (wy := w4) hu6.out hf6.out hG7.out.own hG8.out
                | exact hu6.out) (by first
                | exact ru_mk hG8.out.own HLEN.out
                | exact RU.keep (S := fun _ => False) (ru_mk hG8.out.own HLEN.out) hO6.out (fun _ _ => id)) (by omega) (by repeat (first | assumption | exact Only.refl _ _ | apply Only.drew | apply Only.alloc))).mono ?_); rintro e w9 ⟨rfl, hS9⟩))
              | ((go_at_call 9; (with_reducible refine (H2.out _ (by repeat (first | assumption | exact Only.refl _ _ | apply Only.drew | apply Only.alloc))).mono ?_); rintro e w10 ⟨a10, cap10, rfl, hu10, hS10⟩))
              | ((go_at_call 7; (with_reducible refine (H3.out _ a10 m2 cap10 a2 m2 cap2 (ones b) (by exact hu10.out.of_heap rfl) (HIN.out _ (by repeat (first | assumption | exact Only.refl _ _ | apply Only.drew | apply Only.alloc))) (by omega) (by repeat (first | assumption | exact Only.refl _ _ | apply Only.drew | apply Only.alloc))).mono ?_); rintro e w11 ⟨rfl, hS11⟩))
              | ((go_at_call 7; (with_reducible refine (H3.out _ a4 n4 cap4 a1 n1 cap1 (Many b i C) (HGOT.out _ (by repeat (first | assumption | exact Only.refl _ _ | apply Only.drew | apply Only.alloc))) (HSOM.out _ (by repeat (first | assumption | exact Only.refl _ _ | apply Only.drew | apply Only.alloc))) (by omega) (by repeat (first | assumption | exact Only.refl _ _ | apply Only.drew | apply Only.alloc))).mono ?_); rintro e w12 ⟨rfl, hS12⟩)))
          all_goals
            go_wp2_with fail
            go_ret
            exact ⟨rfl, Only.below (Same.trans HO5.out (Same.trans HSC.out hS12)) (Nat.le_refl _) (fun _ _ => id)⟩
        · have h1' : (k : Int) < (m2 : Int) := by simpa using h1
          have h2' : ¬ (n1 : Int) < (C : Int) := by simpa using h2
          go_wp2_with fail
          refine (implNextSetMany _ b i C wr (HBV.out _ HS4.out) (by omega) (HTW.out _ HS4.out) (by omega) hC1.1 (by omega)).mono ?_
          rintro e w4 ⟨a4, n4, cap4, vv, rfl, hu4, hO4⟩
          have HSC : Hid (Same wc w4) := Lib.hid (Same.trans HS4.out hO4)
          have HGOT : Hid (∀ wx, Same w4 wx → RU wx a4 n4 cap4 (Many b i C)) := Lib.hid (fun wx hx => hu4.keep hx (fun _ _ => id))
          have HSOM : Hid (∀ wx, Same w4 wx → RU wx a1 n1 cap1 (Many b i C)) := Lib.hid (fun wx hx => HSOME.out wx (Same.trans hO4 hx))
          have HBEF : Hid (∀ wx, Same w4 wx → RU wx a0 n0 cap0 l0) := Lib.hid (fun wx hx => HL0.out.keep (Same.trans HSC.out hx) (fun _ _ => id))
          have HIN : Hid (∀ wx, Same w4 wx → RU wx a2 m2 cap2 (ones b)) := Lib.hid (fun wx hx => HU5.out wx (Same.trans HSC.out hx))
          have HCW : Hid (∀ wx, Same w4 wx → wx.cell? ⟨k5, 0, none⟩ = some (.int .u64 (b.length : Int)) ∧ wx.cell? ⟨k5, 1, none⟩ = some (.slice a2 m2 cap2)) := Lib.hid (fun wx hx => HC5.out wx (Same.trans HSC.out hx))
          have H1 : Hid (∀ wx, Same w4 wx → Calls Tryd.prog 8 #[.agg #[.int .u64 (b.length : Int), .slice a2 m2 cap2], .slice a0 n0 cap0] wx fun e w' => ∃ a' cap', e = .returned (.slice a' (n0 + m2) cap') ∧ Hid (RU w' a' (n0 + m2) cap' (l0 ++ ones b)) ∧ Hid (∀ j, At a' j → wx.heap.size ≤ j ∧ j < w'.heap.size) ∧ Hid (Same wx w') ∧ Same w4 w') := Lib.hid (fun wx hx =>
            (implAppendTo _ b l0 a0 n0 cap0 wx (HBV.out wx (Same.trans HSC.out hx)) (by omega) (HBEF.out wx hx) (by omega) (HTW.out wx (Same.trans HSC.out hx))).mono fun e w' ⟨a', cap', he, hu, hO, hf⟩ => by
              have hn : (l0 ++ ones b).length = n0 + m2 := by rw [List.length_append, (HBEF.out wx hx).2, HL.out]
              rw [hn] at he hu
              exact ⟨a', cap', he, Lib.hid hu, Lib.hid hf, Lib.hid hO, Same.trans hx hO⟩)
          have H2 : Hid (∀ wx, Same w4 wx → Calls Tryd.prog 9 #[.agg #[.int .u64 (b.length : Int), .slice a2 m2 cap2]] wx fun e w' => ∃ a' cap', e = .returned (.slice a' m2 cap') ∧ Hid (RU w' a' m2 cap' (ones b)) ∧ Same w4 w') := Lib.hid (fun wx hx =>
            (implAsSlice _ b wx (HBV.out wx (Same.trans HSC.out hx)) (by omega) (HTW.out wx (Same.trans HSC.out hx))).mono fun e w' ⟨a', cap', he, hu, hO⟩ => by
              rw [HL.out] at he hu
              exact ⟨a', cap', he, Lib.hid hu, Same.trans hx hO⟩)
          have H3 : Hid (∀ (wx : World) (a : Option Addr) (n cap : Nat) (a' : Option Addr) (n' cap' : Nat) (L : List Nat), RU wx a n cap L → RU wx a' n' cap' L → n ≤ 1000 → Same w4 wx → Calls Tryd.prog 7 #[.slice a n cap, .slice a' n' cap'] wx fun e w' => e = .returned (.bool true) ∧ Same w4 w') := Lib.hid (fun wx a n cap a' n' cap' L h h' hn hx =>
            (bsList_yes a a' n n' cap cap' L wx h h' (by omega)).mono fun e w' ⟨he, q, hw⟩ => ⟨he, by rw [hw]; exact hx.drewN q⟩)
          have hn4 : n4 ≤ 1000 := by
            have h1 := (HGOT.out w4 (Only.refl _ _)).2
            unfold Many at h1
            rw [List.length_take] at h1
            omega
          have HLEN : Hid ((l0 ++ ones b).length = n0 + m2) := Lib.hid (by rw [List.length_append, (HBEF.out w4 (Only.refl _ _)).2, HL.out])
          have HLL : Hid (U l0 ++ U (ones b) = U (l0 ++ ones b)) := Lib.hid (U_app _ _)
          obtain ⟨y0, y1⟩ := HCW.out w4 (Only.refl _ _)
          clear hu4 hO4 x0 x1 HSOME HL0
          go_upto_region 13 with fail
          go_region_held3 (fun w' => w'.cell? ⟨k5, 0, none⟩ = some (.int .u64 (b.length : Int)) ∧ w'.cell? ⟨k5, 1, none⟩ = some (.slice a2 m2 cap2))
            (first | exact HCW.out _ (by repeat (first | assumption | exact Only.refl _ _ | apply Only.drew | apply Only.alloc)))
            (first
              | ((go_at_call 8; (with_reducible refine (H1.out _ (by repeat (first | assumption | exact Only.refl _ _ | apply Only.drew | apply Only.alloc))).mono ?_); rintro e w6 ⟨a6, cap6, rfl, hu6, hf6, hO6, hS6⟩))
              | ((refine step_append n0 (U l0) (by rfl) _ _ _ _ (by rfl) slUint (by rfl) (own_empty _ (default : World) _ _ (by first | exact heap_alloc_new' _ _ _ (by simp) | exact hO6.out.obj (heap_alloc_new' _ _ _ (by simp)) id)) (by rfl) (Rd.src (HBEF.out _ (by repeat (first | assumption | exact Only.refl _ _ | apply Only.drew | apply Only.alloc))).1 Tryd.underlying23) (Nat.zero_add _) rfl (by unfold maxLen; omega) (by omega) ?_; intro a7 cap7 w7 hG; have hS7 : Same w4 w7 := Only.trans (S := fun _ => False) (show Same w4 _ by repeat (first | assumption | exact Only.refl _ _ | apply Only.drew | apply Only.alloc)) hG.only (fun j hj h => by simp [At] at h; first | omega | (have := hS6.size; omega)); have hG7 := Lib.hid hG; clear hG))
              | ((refine step_append (n0 + m2) (U (l0 ++ ones b)) (by rfl) _ _ _ _ (by rfl) slUint (by rfl) (by first | exact hG7.out.own.of_heap rfl | exact (hG7.out.own.keep hO6.out (fun _ _ => id)).of_heap rfl) (by rfl) (Rd.src (HIN.out _ (by repeat (first | assumption | exact Only.refl _ _ | apply Only.drew | apply Only.alloc))).1 Tryd.underlying23) rfl HLL.out (by unfold maxLen; omega) (by omega) ?_; intro a8 cap8 w8 hG; have hS8 : Same w4 w8 := Only.trans (S := fun _ => False) (show Same w4 _ by repeat (first | assumption | exact Only.refl _ _ | apply Only.drew | apply Only.alloc)) hG.only (fun j hj h => by rcases hG7.out.fresh j h with h | h <;> (try simp [At] at h) <;> first | omega | (have := hS6.size; omega)); have hG8 := Lib.hid hG; clear hG))
              | ((go_at_call 7; (with_reducible refine (H3.out _ a6 (n0 + m2) cap6 a8 (n0 + m2) cap8 (l0 ++ ones b) (by first
                | exact (RU.keep (S := At a7) (by first | exact RU.of_heap (RU.keep (by exact RU.keep (S := fun _ => False) hu6.out (by repeat (first | exact Only.refl _ _ | apply Only.drew | apply Only.alloc)) (fun _ _ => id)) hG7.out.only (fun j hj h => by have e1 := hf6.out j hj; simp [At] at h e1; omega)) rfl) hG8.out.only (fun j hj h => by have e1 := hf6.out j hj; rcases hG7.out.fresh j h with h | h <;> simp [At] at h e1 <;> omega)).of_heap rfl
                | exact (RU.keep (S := At a7) (by exact RU.keep (S := fun _ => False) hu6.out (by repeat (first | exact Only.refl _ _ | apply Only.drew | apply Only.alloc)) (fun _ _ => id)) hG8.out.only (fun j hj h => by have e1 := hf6.out j hj; have e2 := hG7.out.own.lt j h; simp at e1; omega)).of_heap rfl
                | exact hu6.out.of_heap rfl) (by first
                | exact (ru_mk hG8.out.own HLEN.out).of_heap rfl
                | exact (RU.keep (by exact RU.of_heap (ru_mk hG8.out.own HLEN.out) rfl) hO6.out (fun _ _ => id)).of_heap rfl) (by omega) (by repeat (first | assumption | exact Only.refl _ _ | apply Only.drew | apply Only.alloc))).mono ?_); rintro e w9 ⟨rfl, hS9⟩))
              | ((go_at_call 9; (with_reducible refine (H2.out _ (by repeat (first | assumption | exact Only.refl _ _ | apply Only.drew | apply Only.alloc))).mono ?_); rintro e w10 ⟨a10, cap10, rfl, hu10, hS10⟩))
              | ((go_at_call 7; (with_reducible refine (H3.out _ a10 m2 cap10 a2 m2 cap2 (ones b) (by exact hu10.out.of_heap rfl) (HIN.out _ (by repeat (first | assumption | exact Only.refl _ _ | apply Only.drew | apply Only.alloc))) (by omega) (by repeat (first | assumption | exact Only.refl _ _ | apply Only.drew | apply Only.alloc))).mono ?_); rintro e w11 ⟨rfl, hS11⟩))
              | ((go_at_call 7; (with_reducible refine (H3.out _ a4 n4 cap4 a1 n1 cap1 (Many b i C) (HGOT.out _ (by repeat (first | assumption | exact Only.refl _ _ | apply Only.drew | apply Only.alloc))) (HSOM.out _ (by repeat (first | assumption | exact Only.refl _ _ | apply Only.drew | apply Only.alloc))) (by omega) (by repeat (first | assumption | exact Only.refl _ _ | apply Only.drew | apply Only.alloc))).mono ?_); rintro e w12 ⟨rfl, hS12⟩)))
          all_goals
            go_wp2_with fail
            go_ret
            exact ⟨rfl, Only.below (Same.trans HO5.out (Same.trans HSC.out hS12)) (Nat.le_refl _) (fun _ _ => id)⟩

theorem walk (W : World) (v0 v1 v2 v3 : Value) (r0 : Reads Tryd.prog W 25 v0) (r1 : Reads Tryd.prog W 26 v1) (r2 : Reads Tryd.prog W 5 v2) (r3 : Reads Tryd.prog W 23 v3) (hT : Tab W) :
    Calls Tryd.prog 3 #[v0, v1, v2, v3] W fun e w' => e = .returned (.bool true) ∧ Below W.heap.size W w' := by
  obtain ⟨n, a, m, cap, zs, rfl, hr⟩ := Reads.bits r0
  obtain ⟨p, rfl, hp⟩ := r1.int Tryd.underlying26
  obtain ⟨q, rfl, hq⟩ := r2.int Tryd.underlying5
  obtain ⟨a0, m0, cap0, zs0, rfl, hr0⟩ := r3.ints Tryd.underlying23 Tryd.underlying22 (by kernel_rfl)
  have hp' := wf_u16 hp
  have hq' := wf_u8 hq
  obtain ⟨P, rfl⟩ := Int.eq_ofNat_of_zero_le hp'.1
  obtain ⟨Q, rfl⟩ := Int.eq_ofNat_of_zero_le hq'.1
  by_cases hm : m ≤ 2147483647
  · by_cases hm0 : m0 ≤ 2147483647
    · exact main n a m cap zs P Q a0 m0 cap0 zs0 W hr hm (by omega) (by omega) hr0 hm0 hT
    · have H := Lib.hid (fits_yes (n : Int) a m cap)
      have hm0' : (2147483647 : Int) < (m0 : Int) := by omega
      clear r0 r1 r2 r3 hr hr0 hp hp' hq hq' hT
      go_enter Tryd.func3, Tryd.ntmps3
      go_wp2_with fail
      refine (H.out _ hm).mono ?_
      rintro e w1 ⟨rfl, hO1⟩
      go_wp2_with fail
      go_ret
      exact ⟨rfl, Only.below (same_alloc hO1) (Nat.le_refl _) (fun _ _ => id)⟩
  · have H := Lib.hid (fits_no (n : Int) a m cap)
    clear r0 r1 r2 r3 hr hr0 hp hp' hq hq' hT
    go_enter Tryd.func3, Tryd.ntmps3
    go_wp2_with fail
    refine (H.out _ (by omega)).mono ?_
    rintro e w1 ⟨rfl, hO1⟩
    go_wp2_with fail
    go_ret
    exact ⟨rfl, Only.below (same_alloc hO1) (Nat.le_refl _) (fun _ _ => id)⟩
end Go.Proofs.YtmadpemagfbmlaaDoor.walkFnBSLists

/-
  FnBSInsert: the walk. A bit that is inserted is not set, and those from its place on stand one place further; deleted again, the bitset is as before.
-/
import Derived.Test.YthnfoiaemeklnaaBsInsI
import Derived.Deep.RegionHeld3
namespace Go.Proofs.Ythnfoiaemeklnaa.walkFnBSInsert
open Go.RowKit Go.Proofs.Ythnfoiaemeklnaa.base Go.Proofs.Ythnfoiaemeklnaa.heap Go.Proofs.Ythnfoiaemeklnaa.bit Go.Proofs.Ythnfoiaemeklnaa.bs
set_option linter.unusedVariables false

set_option maxRecDepth 100000 in
set_option maxHeartbeats 3200000 in
theorem main (n : Nat) (a : Option Addr) (m cap : Nat) (zs : List Int) (p : Nat) (w : World) (hr : IsRow .u64 w a m cap zs) (hm : m ≤ 2147483647) (hp : p < 65536) :
    Calls Try.prog 6 #[.agg #[.int .u64 (n : Int), .slice a m cap], .int .u16 (p : Int)] w fun e w' => e = .returned (.bool true) ∧ Below w.heap.size w w' := by
  have HRow := Lib.hid hr
  clear hr
  go_enter Try.func6, Try.ntmps6
  go_wp2_with fail
  refine (fits_yes _ _ _ _ _ hm).mono ?_
  rintro e w1 ⟨rfl, hO1⟩
  have hB0 := boxed hO1
  have hO1 := same_alloc hO1
  have c0 : w1.cell? ⟨w.heap.size, 0, none⟩ = some (.int .u64 (n : Int)) := block_cell hB0 rfl
  have c1 : w1.cell? ⟨w.heap.size, 1, none⟩ = some (.slice a m cap) := block_cell hB0 rfl
  clear hB0
  go_wp2_with fail
  refine (bsBits n a m cap zs _ (IsRow.keep HRow.out hO1) hm).mono ?_
  rintro e w2 ⟨b, hb, a2, m2, cap2, rfl, hu2, hO2, hf2⟩
  have hb4 : b.length ≤ 400 := by omega
  have hO2 := hO1.trans hO2
  clear hO1 hb c0 c1 hf2
  by_cases hz : b.length = 0
  · rw [hz]
    go_wp2_with fail
    obtain ⟨W5, hW5, hS5, hB5, hk5⟩ := newBlock w2 #[.int .u64 0, .slice a2 m2 cap2] 25
    rw [← hW5]
    go_ret
    exact ⟨rfl, Only.below (Same.trans hO2 hS5) (Nat.le_refl _) (fun _ _ => id)⟩
  obtain ⟨i, hi⟩ : ∃ i : Nat, p % b.length = i := ⟨_, rfl⟩
  have hi1 : i < b.length := by rw [← hi]; exact Nat.mod_lt _ (by omega)
  have HI : Hid ((p : Int) % (b.length : Int) = (i : Int)) := Lib.hid (by rw [← hi]; exact (Int.natCast_emod p b.length).symm)
  have hz' : ¬ (b.length : Int) = 0 := by omega
  clear hi
  go_wp2_with fail
  obtain ⟨W5, hW5, hS5, hB5, hk5⟩ := newBlock w2 #[.int .u64 (b.length : Int), .slice a2 m2 cap2] 25
  rw [← hW5]
  have hBV : ∀ wx, Same W5 wx → BV wx (.agg #[.int .u64 (b.length : Int), .slice a2 m2 cap2]) b := fun wx hx => BV.mk (hu2.keep (hS5.trans hx) (fun _ _ => id))
  have HBV := Lib.hid hBV
  have HO5 : Hid (Same w W5) := Lib.hid (Same.trans hO2 hS5)
  have HB5 := Lib.hid hB5
  generalize w2.heap.size = k5 at *
  clear hu2 hO2 hBV hW5 hS5 hk5 hB5
  rw [HI.out]
  obtain ⟨d, hd⟩ : ∃ d, insertL b i = d := ⟨_, rfl⟩
  have hdl : d.length = b.length + 1 := by rw [← hd]; exact insertL_len b i (by omega)
  have hdel : deleteL d i = b := by rw [← hd]; exact delete_insert b i (by omega)
  have HD := Lib.hid hd
  have HDEL := Lib.hid hdel
  have hd4 : d.length ≤ 401 := by omega
  have hid : i < d.length := by omega
  have HIN : Hid (∀ wx, Same W5 wx → Calls Try.prog 27 #[.agg #[.int .u64 (b.length : Int), .slice a2 m2 cap2], .int .u64 (i : Int)] wx (FBits W5 d)) := Lib.hid (fun wx hx => by
    have := fbits hx (implInsertAt _ b i wx (HBV.out _ hx) (by omega) hi1)
    rwa [HD.out] at this)
  clear hd hdl hdel
  refine (HIN.out W5 (Only.refl _ _)).mono ?_
  rintro e w6 ⟨a6, m6, cap6, rfl, hu6, hO6⟩
  have HU6 := Lib.hid hu6
  have HO6 := Lib.hid hO6
  clear hu6 hO6
  go_wp2_with fail
  obtain ⟨W7, hW7, hS7, hB7, hk7⟩ := newBlock w6 #[.int .u64 (d.length : Int), .slice a6 m6 cap6] 25
  rw [← hW7]
  have HS7 : Hid (Same W5 W7) := Lib.hid (Same.trans HO6.out hS7)
  have HGOT : Hid (∀ wx, Same W7 wx → RU wx a6 m6 cap6 (ones d)) := Lib.hid (fun wx hx => HU6.out.keep (hS7.trans hx) (fun _ _ => id))
  have hb50 := still HS7.out HB5.out
  have HK : Hid (∀ wx, Same W7 wx → (wx.cell? ⟨k5, 0, none⟩ = some (.int .u64 (b.length : Int)) ∧ wx.cell? ⟨k5, 1, none⟩ = some (.slice a2 m2 cap2)) ∧ (wx.cell? ⟨w6.heap.size, 0, none⟩ = some (.int .u64 (d.length : Int)) ∧ wx.cell? ⟨w6.heap.size, 1, none⟩ = some (.slice a6 m6 cap6))) := Lib.hid (fun wx hx =>
    ⟨⟨block_cell (still hx hb50) rfl, block_cell (still hx hb50) rfl⟩, ⟨block_cell (still hx hB7) rfl, block_cell (still hx hB7) rfl⟩⟩)
  generalize w6.heap.size = k7 at *
  have HFIN : Hid (Same w W7) := Lib.hid (Same.trans HO5.out HS7.out)
  have HC1 : Hid (∀ wx, Same W7 wx → Calls Try.prog 15 #[.agg #[.int .u64 (b.length : Int), .slice a2 m2 cap2]] wx (FBools W7 b)) := Lib.hid (fun wx hx => fbools hx (bsBools _ b wx (HBV.out _ (Same.trans HS7.out hx)) (by omega)))
  have HC2 : Hid (∀ ax cx wx, Same W7 wx → RB wx ax b.length cx b → Calls Try.prog 29 #[.slice ax b.length cx, .int .i64 (i : Int)] wx (FBools W7 d)) := Lib.hid (fun ax cx wx hx hb => by
    have := fbools hx (bsInsert ax cx b i wx hb (by omega) hi1)
    rwa [HD.out] at this)
  have HC3 : Hid (∀ ax cx wx, Same W7 wx → RB wx ax d.length cx d → Calls Try.prog 28 #[.slice ax d.length cx] wx (FBits W7 d)) := Lib.hid (fun ax cx wx hx hb => fbits hx (bsMake ax cx d wx hb (by omega)))
  have HC4 : Hid (∀ ax mx cx wx, Same W7 wx → RU wx ax mx cx (ones d) → Calls Try.prog 14 #[.agg #[.int .u64 (d.length : Int), .slice a6 m6 cap6], .agg #[.int .u64 (d.length : Int), .slice ax mx cx]] wx (FV W7 (.bool true))) := Lib.hid (fun ax mx cx wx hx hu => bsSame_yes _ _ d W7 wx hx (BV.mk (HGOT.out _ hx)) (BV.mk hu) (by omega))
  have HC5 : Hid (∀ wx, Same W7 wx → Calls Try.prog 30 #[.agg #[.int .u64 (d.length : Int), .slice a6 m6 cap6], .int .u64 (i : Int)] wx (FBits W7 b)) := Lib.hid (fun wx hx => by
    have := fbits hx (implDeleteAt _ d i wx (BV.mk (HGOT.out _ hx)) (by omega) hid)
    rwa [HDEL.out] at this)
  have HC6 : Hid (∀ ax mx cx wx, Same W7 wx → RU wx ax mx cx (ones b) → Calls Try.prog 14 #[.agg #[.int .u64 (b.length : Int), .slice ax mx cx], .agg #[.int .u64 (b.length : Int), .slice a2 m2 cap2]] wx (FV W7 (.bool true))) := Lib.hid (fun ax mx cx wx hx hu => bsSame_yes _ _ b W7 wx hx (BV.mk hu) (HBV.out _ (Same.trans HS7.out hx)) (by omega))
  clear hW7 hS7 hB7 hk7 hb50 HBV HB5 HO5 HS7 HU6 HO6 HIN HRow HI HGOT
  obtain ⟨⟨d0, d1⟩, ⟨e0, e1⟩⟩ := HK.out _ (Only.refl _ W7)
  have hwr := wrap_nat_i i (by omega)
  go_region_held3 (fun w' => (w'.cell? ⟨k5, 0, none⟩ = some (.int .u64 (b.length : Int)) ∧ w'.cell? ⟨k5, 1, none⟩ = some (.slice a2 m2 cap2)) ∧ (w'.cell? ⟨k7, 0, none⟩ = some (.int .u64 (d.length : Int)) ∧ w'.cell? ⟨k7, 1, none⟩ = some (.slice a6 m6 cap6)))
    (first | exact HK.out _ (Only.drew (Only.refl _ _)) | exact HK.out _ (by assumption))
    (first | ((go_at_call 15; (with_reducible refine (HC1.out _ (by first | assumption | exact (Only.refl _ _).drew)).mono ?_); rintro e w9 ⟨a11, cap11, rfl, hb11, hO11⟩)) | ((go_at_call 29; (with_reducible refine (HC2.out _ _ _ (by assumption) (by assumption)).mono ?_); rintro e w9 ⟨a12, cap12, rfl, hb12, hO12⟩)) | ((go_at_call 28; (with_reducible refine (HC3.out _ _ _ (by assumption) (by assumption)).mono ?_); rintro e w9 ⟨a13, m13, cap13, rfl, hu13, hO13⟩)) | ((go_at_call 14; (with_reducible refine (HC4.out _ _ _ _ (by assumption) (by assumption)).mono ?_); rintro e w9 ⟨rfl, hO14⟩)) | ((go_at_call 30; (with_reducible refine (HC5.out _ (by assumption)).mono ?_); rintro e w9 ⟨a15, m15, cap15, rfl, hu15, hO15⟩)) | ((go_at_call 14; (with_reducible refine (HC6.out _ _ _ _ (by assumption) (by assumption)).mono ?_); rintro e w9 ⟨rfl, hO16⟩)))
  all_goals
    go_wp2
    go_ret
    exact ⟨rfl, Only.below (Same.trans HFIN.out hO16) (Nat.le_refl _) (fun _ _ => id)⟩

theorem walk (W : World) (v0 v1 : Value) (r0 : Reads Try.prog W 25 v0) (r1 : Reads Try.prog W 30 v1) :
    Calls Try.prog 6 #[v0, v1] W fun e w' => e = .returned (.bool true) ∧ Below W.heap.size W w' := by
  obtain ⟨n, a, m, cap, zs, rfl, hr⟩ := Reads.bits r0
  obtain ⟨p, rfl, hp⟩ := r1.int Try.underlying30
  have hp' := wf_u16 hp
  obtain ⟨P, rfl⟩ := Int.eq_ofNat_of_zero_le hp'.1
  by_cases hm : m ≤ 2147483647
  · exact main n a m cap zs P W hr hm (by omega)
  · have H := Lib.hid (fits_no (n : Int) a m cap)
    clear r0 r1 hr hp hp'
    go_enter Try.func6, Try.ntmps6
    go_wp2_with fail
    refine (H.out _ (by omega)).mono ?_
    rintro e w1 ⟨rfl, hO1⟩
    go_wp2_with fail
    go_ret
    exact ⟨rfl, Only.below (same_alloc hO1) (Nat.le_refl _) (fun _ _ => id)⟩
end Go.Proofs.Ythnfoiaemeklnaa.walkFnBSInsert

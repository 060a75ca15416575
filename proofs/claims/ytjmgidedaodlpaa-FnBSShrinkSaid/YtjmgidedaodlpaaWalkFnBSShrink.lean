/-
  FnBSShrink: the walk.
-/
import Derived.Test.YtjmgidedaodlpaaBsImpl4
import Derived.Test.YtjmgidedaodlpaaBsLaw
import Derived.Deep.RegionHeld3
namespace Go.Proofs.Ytjmgidedaodlpaa.walkFnBSShrink
open Go.RowKit Go.Proofs.Ytjmgidedaodlpaa.base Go.Proofs.Ytjmgidedaodlpaa.heap Go.Proofs.Ytjmgidedaodlpaa.bit Go.Proofs.Ytjmgidedaodlpaa.bs
set_option linter.unusedVariables false

set_option maxRecDepth 100000 in
set_option maxHeartbeats 3200000 in
theorem main (n : Nat) (a : Option Addr) (m cap : Nat) (zs : List Int) (p : Nat) (w : World) (hr : IsRow .u64 w a m cap zs) (hm : m ≤ 2147483647) (hp : p < 65536) :
    Calls Try.prog 7 #[.agg #[.int .u64 (n : Int), .slice a m cap], .int .u16 (p : Int)] w fun e w' => e = .returned (.bool true) ∧ Below w.heap.size w w' := by

  have HRow := Lib.hid hr
  clear hr
  go_enter Try.func7, Try.ntmps7
  go_wp2_with fail
  refine (fits_yes _ _ _ _ _ hm).mono ?_
  rintro e w1 ⟨rfl, hO1⟩
  have hB0 := boxed hO1
  have hO1 := same_alloc hO1
  have c0 : w1.cell? ⟨w.heap.size, 0, none⟩ = some (.int .u64 (n : Int)) := block_cell hB0 rfl
  have c1 : w1.cell? ⟨w.heap.size, 1, none⟩ = some (.slice a m cap) := block_cell hB0 rfl
  clear hB0
  go_wp2_with fail
  refine (bsBits n a m cap zs _ (IsRow.keep HRow.out hO1) hm).mono ?_
  rintro e w2 ⟨b, hb, a2, m2, cap2, rfl, hu2, hO2, hf2⟩
  have hb4 : b.length ≤ 400 := by omega
  have hO2 := hO1.trans hO2
  clear hO1 hb c0 c1 hf2
  by_cases hz : b.length = 0
  · rw [hz]
    go_wp2_with fail
    obtain ⟨W5, hW5, hS5, hB5, hk5⟩ := newBlock w2 #[.int .u64 0, .slice a2 m2 cap2] 33
    rw [← hW5]
    go_ret
    exact ⟨rfl, Only.below (Same.trans hO2 hS5) (Nat.le_refl _) (fun _ _ => id)⟩
  obtain ⟨i, hi⟩ : ∃ i : Nat, p % b.length = i := ⟨_, rfl⟩
  have hi1 : i < b.length := by rw [← hi]; exact Nat.mod_lt _ (by omega)
  have HI : Hid ((p : Int) % (b.length : Int) = (i : Int)) := Lib.hid (by rw [← hi]; exact (Int.natCast_emod p b.length).symm)
  have hz' : ¬ (b.length : Int) = 0 := by omega
  clear hi
  go_wp2_with fail
  obtain ⟨W5, hW5, hS5, hB5, hk5⟩ := newBlock w2 #[.int .u64 (b.length : Int), .slice a2 m2 cap2] 33
  rw [← hW5]
  have hBV : ∀ wx, Same W5 wx → BV wx (.agg #[.int .u64 (b.length : Int), .slice a2 m2 cap2]) b := fun wx hx => BV.mk (hu2.keep (hS5.trans hx) (fun _ _ => id))
  have HBV := Lib.hid hBV
  have HO5 : Hid (Same w W5) := Lib.hid (Same.trans hO2 hS5)
  have HB5 := Lib.hid hB5
  generalize w2.heap.size = k5 at *
  clear hu2 hO2 hBV hW5 hS5 hk5 hB5
  rw [HI.out]
  obtain ⟨d, hd⟩ : ∃ d, b.take (i + 1) = d := ⟨_, rfl⟩
  have hdl : d.length = i + 1 := by rw [← hd, List.length_take]; omega
  have HD := Lib.hid hd
  have hd4 : d.length ≤ 400 := by omega
  clear hd hdl
  have HC1 : Hid (∀ w0 wx, Same W5 w0 → Same w0 wx → Calls Try.prog 26 #[.agg #[.int .u64 (b.length : Int), .slice a2 m2 cap2], .int .u64 (i : Int)] wx (FBits w0 d)) := Lib.hid (fun w0 wx h0 hx => fbits hx (implShrink _ b d i wx (HBV.out _ (h0.trans hx)) (by omega) hi1 HD))
  have HC2 : Hid (∀ w0 wx, Same W5 w0 → Same w0 wx → Calls Try.prog 18 #[.agg #[.int .u64 (b.length : Int), .slice a2 m2 cap2]] wx (FCut w0 b d i)) := Lib.hid (fun w0 wx h0 hx => cut_bools _ b d i w0 wx hx (HBV.out _ (h0.trans hx)) (by omega) hi1 HD)
  have HK : Hid (∀ wx, Same W5 wx → wx.cell? ⟨k5, 0, none⟩ = some (.int .u64 (b.length : Int)) ∧ wx.cell? ⟨k5, 1, none⟩ = some (.slice a2 m2 cap2)) := Lib.hid (fun wx hx =>
    ⟨block_cell (still hx HB5.out) rfl, block_cell (still hx HB5.out) rfl⟩)
  obtain ⟨d0, d1⟩ := HK.out _ (Only.refl _ W5)
  have hwr : IntKind.u64.wrap ((i : Int) + 1) = (i : Int) + 1 := by rw [IntKind.wrap_u64]; omega
  have hge : (0 : Int) ≤ (i : Int) + 1 := by omega
  go_region_held3 (fun w' => w'.cell? ⟨k5, 0, none⟩ = some (.int .u64 (b.length : Int)) ∧ w'.cell? ⟨k5, 1, none⟩ = some (.slice a2 m2 cap2))
    (first | go_keep | (go_split_ands; exact HK.out _ (Same.trans hO10 hO13)) | (go_split_ands; exact HK.out _ (Same.trans hO10 hO12)) | (go_split_ands; exact HK.out _ (Same.trans hO10 hO11)) | (go_split_ands; exact HK.out _ hO10))
    (first | ((go_at_call 26; (with_reducible refine (HC1.out W5 _ (by exact (Only.refl _ W5)) (by exact (Only.refl _ W5).drew)).mono ?_); rintro e w10 ⟨a10, m10, cap10, rfl, hu10, hO10⟩)) | ((go_at_call 18; (with_reducible refine (HC2.out w10 _ hO10 (by exact (Only.refl _ w10))).mono ?_); rintro e w11 ⟨q11, o11, cap11, rfl, hcap1, hcap2, hr11, hO11⟩)) | ((go_at_call 14; (with_reducible refine (make_cut _ _ _ d w10 _ hO11 hr11 (by omega)).mono ?_); rintro e w12 ⟨a12, m12, cap12, rfl, hu12, hO12⟩)) | ((go_at_call 11; (with_reducible refine (bsSame_yes _ _ d w10 _ hO12 (BV.mk (by exact hu10.keep hO12 (fun _ _ => id))) (BV.mk hu12) (by omega)).mono ?_); rintro e w13 ⟨rfl, hO13⟩)))
  go_wp2
  go_ret
  exact ⟨rfl, Only.below (Same.trans HO5.out (Same.trans hO10 hO13)) (Nat.le_refl _) (fun _ _ => id)⟩

theorem walk (W : World) (v0 v1 : Value) (r0 : Reads Try.prog W 33 v0) (r1 : Reads Try.prog W 22 v1) :
    Calls Try.prog 7 #[v0, v1] W fun e w' => e = .returned (.bool true) ∧ Below W.heap.size W w' := by
  obtain ⟨n, a, m, cap, zs, rfl, hr⟩ := Reads.bits r0
  obtain ⟨p, rfl, hp⟩ := r1.int Try.underlying22
  have hp' := wf_u16 hp
  obtain ⟨P, rfl⟩ := Int.eq_ofNat_of_zero_le hp'.1
  by_cases hm : m ≤ 2147483647
  · exact main n a m cap zs P W hr hm (by omega)
  · have H := Lib.hid (fits_no (n : Int) a m cap)
    clear r0 r1 hr hp hp'
    go_enter Try.func7, Try.ntmps7
    go_wp2_with fail
    refine (H.out _ (by omega)).mono ?_
    rintro e w1 ⟨rfl, hO1⟩
    go_wp2_with fail
    go_ret
    exact ⟨rfl, Only.below (same_alloc hO1) (Nat.le_refl _) (fun _ _ => id)⟩
end Go.Proofs.Ytjmgidedaodlpaa.walkFnBSShrink

/-
  The thin package: BSShiftLeft, of a bitset that shifts; FnBSShiftLeft of one: what the law's walk asks of ShiftLeft is a hypothesis here (Shifts), proved elsewhere.
-/
import Derived.Test.YtmadpemagfbmlaaBsShiftS
import Derived.Test.YtmadpemagfbmlaaBsRangeI
import Derived.Deep.RegionHeld3
namespace Go.Proofs.Ytmadpemagfbmlaa.bs
open Go.RowKit Go.Proofs.Ytmadpemagfbmlaa.base Go.Proofs.Ytmadpemagfbmlaa.heap Go.Proofs.Ytmadpemagfbmlaa.bit
set_option linter.unusedVariables false

/-- what ShiftLeft does -/
def Shifts : Prop := ∀ (o : O) (b : List Bool) (n : Nat) (w : World), o.ok w → o.rep b → o.m = (b.length + 63) / 64 → b.length ≤ 1000 → n ≤ 1000 →
  Calls Try.prog 21 #[o.ptr, .int .u64 (n : Int)] w fun e w' => e = .returned (.tuple #[]) ∧ ∃ d, ones d = (ones b).map (· + n) ∧ d.length ≤ 3000 ∧ Upd o d w w'

set_option maxRecDepth 100000 in
set_option maxHeartbeats 800000 in
theorem implShiftLeft (H : Shifts) (v : Value) (b : List Bool) (n : Nat) (w : World) (h : BV w v b) (hn : b.length ≤ 1000) (hn2 : n ≤ 1000) :
    Calls Try.prog 9 #[v, .int .u64 (n : Int)] w fun e w' => ∃ d, ones d = (ones b).map (· + n) ∧ d.length ≤ 3000 ∧ RetBits d w e w' := by
  obtain ⟨a, m, cap, rfl, hr⟩ := h
  have hW : Only (fun _ => False) w ((w.alloc (.cells #[.int .u64 (b.length : Int), .slice a m cap] 25)).alloc (.cells #[.int .u64 0, .slice none 0 0] 25)) := ((Only.refl _ w).alloc _).alloc _
  have hres : ((w.alloc (.cells #[.int .u64 (b.length : Int), .slice a m cap] 25)).alloc (.cells #[.int .u64 0, .slice none 0 0] 25)).heap[w.heap.size + 1]? = some (.cells #[.int .u64 0, .slice none 0 0] 25 (0, 0)) := heap_alloc_new' _ _ _ (by simp)
  have HS := Lib.hid (set64 (.agg #[.int .u64 (b.length : Int), .slice a m cap]) b _ ⟨a, m, cap, rfl, hr.keep hW (fun _ _ => id)⟩ (by omega))
  have HW := Lib.hid hW
  have HR := Lib.hid hres
  clear hr hW hres
  go_enter Try.func9, Try.ntmps9
  go_wp2_with fail
  refine HS.out.mono ?_
  rintro e w1 ⟨o, rfl, hok, hrep, hm, hO1, hf1⟩
  have hw1 : ∀ k, o.foot k → w.heap.size + 1 + 1 ≤ k := fun k hk => by have := hf1 k hk; simp at this; omega
  have HO1 := Lib.hid hO1
  have HF1 := Lib.hid hf1
  have HM := Lib.hid hm
  clear hO1 hf1 hw1 hm
  go_wp2_with fail
  refine (H o b n _ hok hrep HM.out (by omega) hn2).mono ?_
  rintro e w2 ⟨rfl, d, hd, hdl, o', hp', hok', hrep', hO2, hf2⟩
  have HS2 := Lib.hid (said64_at o o' _ w2 hp' hok' hrep' (by omega))
  have HO2 := Lib.hid hO2
  clear hp' hok' hrep' hO2 hf2 hok hrep
  go_wp2_with fail
  refine HS2.out.mono ?_
  rintro e w3 ⟨a3, m3, cap3, rfl, hu3, hO3, hf3⟩
  have HT := Lib.hid (told_mk HW.out (Nat.le_succ _) HR.out HO1.out HF1.out HO2.out hO3 hu3 hf3)
  have r0 : w3.cell? ⟨w.heap.size + 1, 0, none⟩ = some (.int .u64 0) := block_cell HT.out.res rfl
  have r1 : w3.cell? ⟨w.heap.size + 1, 1, none⟩ = some (.slice none 0 0) := block_cell HT.out.res rfl
  have rf0 : w3.frozen? ⟨w.heap.size + 1, 0, none⟩ = false := block_free HT.out.res
  have rf1 : w3.frozen? ⟨w.heap.size + 1, 1, none⟩ = false := block_free HT.out.res
  clear hu3 hO3 hf3
  go_wp2_with fail
  refine bodyPost_ret (v := .agg #[.int .u64 (d.length : Int), .slice a3 m3 cap3]) ?_ rfl ⟨d, hd, hdl, HT.out.ret⟩
  simp [results, Try.results9, go_sem, r0, r1]


set_option maxRecDepth 100000 in
set_option maxHeartbeats 3200000 in
theorem lawShiftLeft (H : Shifts) (n : Nat) (a : Option Addr) (m cap : Nat) (zs : List Int) (p : Nat) (w : World) (hr : IsRow .u64 w a m cap zs) (hm : m ≤ 2147483647) (hp : p < 65536) :
    Calls Try.prog 3 #[.agg #[.int .u64 (n : Int), .slice a m cap], .int .u16 (p : Int)] w fun e w' => e = .returned (.bool true) ∧ Below w.heap.size w w' := by
  have HRow := Lib.hid hr
  have HH := Lib.hid H
  clear hr H
  go_enter Try.func3, Try.ntmps3
  go_wp2_with fail
  refine (fits_yes _ _ _ _ _ hm).mono ?_
  rintro e w1 ⟨rfl, hO1⟩
  have hB0 := boxed hO1
  have hO1 := same_alloc hO1
  have c0 : w1.cell? ⟨w.heap.size, 0, none⟩ = some (.int .u64 (n : Int)) := block_cell hB0 rfl
  have c1 : w1.cell? ⟨w.heap.size, 1, none⟩ = some (.slice a m cap) := block_cell hB0 rfl
  clear hB0
  go_wp2_with fail
  refine (bsBits n a m cap zs _ (IsRow.keep HRow.out hO1) hm).mono ?_
  rintro e w2 ⟨b, hb, a2, m2, cap2, rfl, hu2, hO2, hf2⟩
  have hb4 : b.length ≤ 400 := by omega
  have hO2 := hO1.trans hO2
  obtain ⟨i, hi⟩ : ∃ i : Nat, p % 301 = i := ⟨_, rfl⟩
  have hi1 : i < 301 := by rw [← hi]; exact Nat.mod_lt _ (by omega)
  have HI : Hid ((p : Int) % 301 = (i : Int)) := Lib.hid (by omega)
  clear hO1 hb c0 c1 hf2 hi
  go_upto_region 4 with fail
  obtain ⟨W5, hW5, hS5, hB5, hk5⟩ := newBlock w2 #[.int .u64 (b.length : Int), .slice a2 m2 cap2] 25
  rw [← hW5]
  rw [HI.out]
  have hBV : ∀ wx, Same W5 wx → BV wx (.agg #[.int .u64 (b.length : Int), .slice a2 m2 cap2]) b := fun wx hx => BV.mk (hu2.keep (hS5.trans hx) (fun _ _ => id))
  have HBV := Lib.hid hBV
  have HO5 : Hid (Same w W5) := Lib.hid (Same.trans hO2 hS5)
  have HB5 := Lib.hid hB5
  generalize w2.heap.size = k5 at *
  clear hu2 hO2 hBV hW5 hS5 hk5 hB5
  have HC : Hid (∀ wx, Same W5 wx → wx.cell? ⟨k5, 0, none⟩ = some (.int .u64 (b.length : Int)) ∧ wx.cell? ⟨k5, 1, none⟩ = some (.slice a2 m2 cap2)) := Lib.hid (fun wx hx =>
    ⟨block_cell (still hx HB5.out) rfl, block_cell (still hx HB5.out) rfl⟩)
  have wi := wrap_nat i (by omega)
  have H1 : Hid (∀ wx, Same W5 wx → Calls Try.prog 9 #[.agg #[.int .u64 (b.length : Int), .slice a2 m2 cap2], .int .u64 (i : Int)] wx fun e w' => ∃ d a m cap, Hid (ones d = (ones b).map (· + i)) ∧ d.length ≤ 3000 ∧ e = .returned (.agg #[.int .u64 (d.length : Int), .slice a m cap]) ∧ RU w' a m cap (ones d) ∧ Same wx w') := Lib.hid (fun wx hx =>
    (implShiftLeft HH.out _ b i wx (HBV.out wx hx) (by omega) (by omega)).mono fun e w' ⟨d, h1, h2, a, m, cap, h3, h4, h5, _⟩ => ⟨d, a, m, cap, Lib.hid h1, h2, h3, h4, h5⟩)
  have H2 : Hid (∀ wx, Same W5 wx → Calls Try.prog 11 #[.agg #[.int .u64 (b.length : Int), .slice a2 m2 cap2]] wx (FBools wx b)) := Lib.hid (fun wx hx => fbools (Only.refl _ _) (bsBools _ b wx (HBV.out _ hx) (by omega)))
  have H3 : Hid (∀ a cap wx, RB wx a b.length cap b → Calls Try.prog 10 #[.slice a b.length cap, .int .i64 (i : Int)] wx fun e w' => ∃ a cap l, Hid (l = (ones b).map (· + i)) ∧ e = .returned (.slice a l.length cap) ∧ RU w' a l.length cap l ∧ Same wx w') := Lib.hid (fun a cap wx h =>
    (bsShift a cap b i wx h (by omega) (by omega)).mono fun e w' ⟨a, cap, he, hu, hO, _⟩ => ⟨a, cap, _, Lib.hid rfl, he, hu, hO⟩)
  have H4 : Hid (∀ (d : List Bool) (l : List Nat) a m cap a' cap' wx, ones d = (ones b).map (· + i) → l = (ones b).map (· + i) → d.length ≤ 3000 → RU wx a m cap (ones d) → RU wx a' l.length cap' l → Calls Try.prog 8 #[.agg #[.int .u64 (d.length : Int), .slice a m cap], .slice a' l.length cap'] wx (FV wx (.bool true))) := Lib.hid (fun d l a m cap a' cap' wx h1 h2 h3 h4 h5 =>
    bsIn_yes _ d a' l.length cap' wx wx (Only.refl _ _) (BV.mk h4) (by rw [h1, ← h2]; exact h5) (by omega))
  obtain ⟨x0, x1⟩ := HC.out W5 (Only.refl _ _)
  go_region_held3 (fun w' => w'.cell? ⟨k5, 0, none⟩ = some (.int .u64 (b.length : Int)) ∧ w'.cell? ⟨k5, 1, none⟩ = some (.slice a2 m2 cap2))
    (first | exact HC.out _ (Only.drew (Only.refl _ _)) | exact HC.out _ (by assumption))
    (first
      | ((go_at_call 9; (with_reducible refine (H1.out _ (by first | exact (Only.refl _ W5).drew | exact Only.refl _ W5)).mono ?_); rintro e w11 ⟨d, a11, m11, cap11, hd1, hd2, rfl, hu11, hO11'⟩; have hO11 : Same W5 w11 := Same.trans (by first | exact (Only.refl _ W5).drew | exact Only.refl _ W5) hO11'))
      | ((go_at_call 11; (with_reducible refine (H2.out _ hO11).mono ?_); rintro e w12 ⟨a12, cap12, rfl, hb12, hO12'⟩; have hO12 := Same.trans hO11 hO12'))
      | ((go_at_call 10; (with_reducible refine (H3.out _ _ _ hb12).mono ?_); rintro e w13 ⟨a13, cap13, l13, hl13, rfl, hu13, hO13'⟩; have hO13 := Same.trans hO12 hO13'))
      | ((go_at_call 8; (with_reducible refine (H4.out _ _ _ _ _ _ _ _ hd1.out hl13.out hd2 (hu11.keep (Same.trans hO12' hO13') (fun _ _ => id)) hu13).mono ?_); rintro e w14 ⟨rfl, hO14'⟩; have hO14 := Same.trans hO13 hO14')))
  all_goals
    go_wp2
    go_ret
    exact ⟨rfl, Only.below (Same.trans HO5.out hO14) (Nat.le_refl _) (fun _ _ => id)⟩

theorem walkShiftLeft (H : Shifts) (W : World) (v0 v1 : Value) (r0 : Reads Try.prog W 25 v0) (r1 : Reads Try.prog W 26 v1) :
    Calls Try.prog 3 #[v0, v1] W fun e w' => e = .returned (.bool true) ∧ Below W.heap.size W w' := by
  obtain ⟨n, a, m, cap, zs, rfl, hr⟩ := Reads.bits r0
  obtain ⟨p, rfl, hp⟩ := r1.int Try.underlying26
  have hp' := wf_u16 hp
  obtain ⟨P, rfl⟩ := Int.eq_ofNat_of_zero_le hp'.1
  by_cases hm : m ≤ 2147483647
  · exact lawShiftLeft H n a m cap zs P W hr hm (by omega)
  · have HX := Lib.hid (fits_no (n : Int) a m cap)
    clear r0 r1 hr hp hp' H
    go_enter Try.func3, Try.ntmps3
    go_wp2_with fail
    refine (HX.out _ (by omega)).mono ?_
    rintro e w1 ⟨rfl, hO1⟩
    go_wp2_with fail
    go_ret
    exact ⟨rfl, Only.below (same_alloc hO1) (Nat.le_refl _) (fun _ _ => id)⟩
end Go.Proofs.Ytmadpemagfbmlaa.bs

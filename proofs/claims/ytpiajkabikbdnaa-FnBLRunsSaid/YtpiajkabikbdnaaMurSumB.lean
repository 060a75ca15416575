/-
  sum128: the two numbers hang on the running hash, the length and the tail's bytes alone.
-/
import Derived.Test.YtpiajkabikbdnaaMur
import Derived.Test.YtpiajkabikbdnaaExit
import Derived.Deep.Cut
namespace Go.Proofs.Ytpiajkabikbdnaa.bs
open Go.RowKit Go.Proofs.Ytpiajkabikbdnaa.base Go.Proofs.Ytpiajkabikbdnaa.heap Go.Proofs.Ytpiajkabikbdnaa.bit
set_option linter.unusedVariables false


set_option maxRecDepth 100000 in
set_option maxHeartbeats 1600000 in
theorem sum_false_8 : SumAt false 8 := by
  rintro ⟨⟨x1, x2⟩, len, l⟩
  obtain ⟨R31, h31⟩ := rot_31
  obtain ⟨R33, h33⟩ := rot_33
  obtain ⟨FM, hfm⟩ := fmix
  have H31 := Lib.hid h31
  have H33 := Lib.hid h33
  have HFM := Lib.hid hfm
  clear h31 h33 hfm
  apply Exists.intro
  apply Exists.intro
  intro w p a cap d h
  obtain ⟨c0, c1, f0, f1⟩ := d.cells
  have hbd := h.1.bound
  obtain ⟨b, off, rfl, hb, hc⟩ := h.at (by omega)
  have e0 : w.cell? ⟨b, off, none⟩ = some (.int .u8 (l.getD 0 0 : Nat)) := hc 0 (by omega)
  have e1 := hc 1 (by omega)
  have e2 := hc 2 (by omega)
  have e3 := hc 3 (by omega)
  have e4 := hc 4 (by omega)
  have e5 := hc 5 (by omega)
  have e6 := hc 6 (by omega)
  have e7 := hc 7 (by omega)
  clear hc
  clear h d
  have hb2 : bits .and .i64 8 15 = 8 := by decide
  go_enter Try.func69, Try.ntmps69
  go_wp2_with fail
  go_quiet (fail)
  go_upto_region 43 with (first | ((with_reducible refine (H31.out _ _).mono ?_); rintro e w' ⟨rfl, rfl⟩) | ((with_reducible refine (H33.out _ _).mono ?_); rintro e w' ⟨rfl, rfl⟩) | ((with_reducible refine wp_exit ?_); repeat (first | (with_reducible refine in_hit ?_) | ((with_reducible refine in_pass ?_ ?_); decide) | (with_reducible refine then_exit ?_) | (with_reducible refine then_normal ?_) | (with_reducible refine in_normal ?_))))
  go_upto_region 82 with (first | ((with_reducible refine (H31.out _ _).mono ?_); rintro e w' ⟨rfl, rfl⟩) | ((with_reducible refine (H33.out _ _).mono ?_); rintro e w' ⟨rfl, rfl⟩) | ((with_reducible refine wp_exit ?_); repeat (first | (with_reducible refine in_hit ?_) | ((with_reducible refine in_pass ?_ ?_); decide) | (with_reducible refine then_exit ?_) | (with_reducible refine then_normal ?_) | (with_reducible refine in_normal ?_))))
  go_wp2_with ((with_reducible refine (HFM.out _ _).mono ?_); rintro e w' ⟨rfl, rfl⟩)
  go_ret2
  exact ⟨rfl, (Only.refl _ w).drewN _⟩

set_option maxRecDepth 100000 in
set_option maxHeartbeats 1600000 in
theorem sum_false_9 : SumAt false 9 := by
  rintro ⟨⟨x1, x2⟩, len, l⟩
  obtain ⟨R31, h31⟩ := rot_31
  obtain ⟨R33, h33⟩ := rot_33
  obtain ⟨FM, hfm⟩ := fmix
  have H31 := Lib.hid h31
  have H33 := Lib.hid h33
  have HFM := Lib.hid hfm
  clear h31 h33 hfm
  apply Exists.intro
  apply Exists.intro
  intro w p a cap d h
  obtain ⟨c0, c1, f0, f1⟩ := d.cells
  have hbd := h.1.bound
  obtain ⟨b, off, rfl, hb, hc⟩ := h.at (by omega)
  have e0 : w.cell? ⟨b, off, none⟩ = some (.int .u8 (l.getD 0 0 : Nat)) := hc 0 (by omega)
  have e1 := hc 1 (by omega)
  have e2 := hc 2 (by omega)
  have e3 := hc 3 (by omega)
  have e4 := hc 4 (by omega)
  have e5 := hc 5 (by omega)
  have e6 := hc 6 (by omega)
  have e7 := hc 7 (by omega)
  have e8 := hc 8 (by omega)
  clear hc
  clear h d
  have hb2 : bits .and .i64 9 15 = 9 := by decide
  go_enter Try.func69, Try.ntmps69
  go_wp2_with fail
  go_quiet (fail)
  go_upto_region 43 with (first | ((with_reducible refine (H31.out _ _).mono ?_); rintro e w' ⟨rfl, rfl⟩) | ((with_reducible refine (H33.out _ _).mono ?_); rintro e w' ⟨rfl, rfl⟩) | ((with_reducible refine wp_exit ?_); repeat (first | (with_reducible refine in_hit ?_) | ((with_reducible refine in_pass ?_ ?_); decide) | (with_reducible refine then_exit ?_) | (with_reducible refine then_normal ?_) | (with_reducible refine in_normal ?_))))
  go_upto_region 82 with (first | ((with_reducible refine (H31.out _ _).mono ?_); rintro e w' ⟨rfl, rfl⟩) | ((with_reducible refine (H33.out _ _).mono ?_); rintro e w' ⟨rfl, rfl⟩) | ((with_reducible refine wp_exit ?_); repeat (first | (with_reducible refine in_hit ?_) | ((with_reducible refine in_pass ?_ ?_); decide) | (with_reducible refine then_exit ?_) | (with_reducible refine then_normal ?_) | (with_reducible refine in_normal ?_))))
  go_wp2_with ((with_reducible refine (HFM.out _ _).mono ?_); rintro e w' ⟨rfl, rfl⟩)
  go_ret2
  exact ⟨rfl, (Only.refl _ w).drewN _⟩

set_option maxRecDepth 100000 in
set_option maxHeartbeats 1600000 in
theorem sum_false_10 : SumAt false 10 := by
  rintro ⟨⟨x1, x2⟩, len, l⟩
  obtain ⟨R31, h31⟩ := rot_31
  obtain ⟨R33, h33⟩ := rot_33
  obtain ⟨FM, hfm⟩ := fmix
  have H31 := Lib.hid h31
  have H33 := Lib.hid h33
  have HFM := Lib.hid hfm
  clear h31 h33 hfm
  apply Exists.intro
  apply Exists.intro
  intro w p a cap d h
  obtain ⟨c0, c1, f0, f1⟩ := d.cells
  have hbd := h.1.bound
  obtain ⟨b, off, rfl, hb, hc⟩ := h.at (by omega)
  have e0 : w.cell? ⟨b, off, none⟩ = some (.int .u8 (l.getD 0 0 : Nat)) := hc 0 (by omega)
  have e1 := hc 1 (by omega)
  have e2 := hc 2 (by omega)
  have e3 := hc 3 (by omega)
  have e4 := hc 4 (by omega)
  have e5 := hc 5 (by omega)
  have e6 := hc 6 (by omega)
  have e7 := hc 7 (by omega)
  have e8 := hc 8 (by omega)
  have e9 := hc 9 (by omega)
  clear hc
  clear h d
  have hb2 : bits .and .i64 10 15 = 10 := by decide
  go_enter Try.func69, Try.ntmps69
  go_wp2_with fail
  go_quiet (fail)
  go_upto_region 43 with (first | ((with_reducible refine (H31.out _ _).mono ?_); rintro e w' ⟨rfl, rfl⟩) | ((with_reducible refine (H33.out _ _).mono ?_); rintro e w' ⟨rfl, rfl⟩) | ((with_reducible refine wp_exit ?_); repeat (first | (with_reducible refine in_hit ?_) | ((with_reducible refine in_pass ?_ ?_); decide) | (with_reducible refine then_exit ?_) | (with_reducible refine then_normal ?_) | (with_reducible refine in_normal ?_))))
  go_upto_region 82 with (first | ((with_reducible refine (H31.out _ _).mono ?_); rintro e w' ⟨rfl, rfl⟩) | ((with_reducible refine (H33.out _ _).mono ?_); rintro e w' ⟨rfl, rfl⟩) | ((with_reducible refine wp_exit ?_); repeat (first | (with_reducible refine in_hit ?_) | ((with_reducible refine in_pass ?_ ?_); decide) | (with_reducible refine then_exit ?_) | (with_reducible refine then_normal ?_) | (with_reducible refine in_normal ?_))))
  go_wp2_with ((with_reducible refine (HFM.out _ _).mono ?_); rintro e w' ⟨rfl, rfl⟩)
  go_ret2
  exact ⟨rfl, (Only.refl _ w).drewN _⟩

set_option maxRecDepth 100000 in
set_option maxHeartbeats 1600000 in
theorem sum_false_11 : SumAt false 11 := by
  rintro ⟨⟨x1, x2⟩, len, l⟩
  obtain ⟨R31, h31⟩ := rot_31
  obtain ⟨R33, h33⟩ := rot_33
  obtain ⟨FM, hfm⟩ := fmix
  have H31 := Lib.hid h31
  have H33 := Lib.hid h33
  have HFM := Lib.hid hfm
  clear h31 h33 hfm
  apply Exists.intro
  apply Exists.intro
  intro w p a cap d h
  obtain ⟨c0, c1, f0, f1⟩ := d.cells
  have hbd := h.1.bound
  obtain ⟨b, off, rfl, hb, hc⟩ := h.at (by omega)
  have e0 : w.cell? ⟨b, off, none⟩ = some (.int .u8 (l.getD 0 0 : Nat)) := hc 0 (by omega)
  have e1 := hc 1 (by omega)
  have e2 := hc 2 (by omega)
  have e3 := hc 3 (by omega)
  have e4 := hc 4 (by omega)
  have e5 := hc 5 (by omega)
  have e6 := hc 6 (by omega)
  have e7 := hc 7 (by omega)
  have e8 := hc 8 (by omega)
  have e9 := hc 9 (by omega)
  have e10 := hc 10 (by omega)
  clear hc
  clear h d
  have hb2 : bits .and .i64 11 15 = 11 := by decide
  go_enter Try.func69, Try.ntmps69
  go_wp2_with fail
  go_quiet (fail)
  go_upto_region 43 with (first | ((with_reducible refine (H31.out _ _).mono ?_); rintro e w' ⟨rfl, rfl⟩) | ((with_reducible refine (H33.out _ _).mono ?_); rintro e w' ⟨rfl, rfl⟩) | ((with_reducible refine wp_exit ?_); repeat (first | (with_reducible refine in_hit ?_) | ((with_reducible refine in_pass ?_ ?_); decide) | (with_reducible refine then_exit ?_) | (with_reducible refine then_normal ?_) | (with_reducible refine in_normal ?_))))
  go_upto_region 82 with (first | ((with_reducible refine (H31.out _ _).mono ?_); rintro e w' ⟨rfl, rfl⟩) | ((with_reducible refine (H33.out _ _).mono ?_); rintro e w' ⟨rfl, rfl⟩) | ((with_reducible refine wp_exit ?_); repeat (first | (with_reducible refine in_hit ?_) | ((with_reducible refine in_pass ?_ ?_); decide) | (with_reducible refine then_exit ?_) | (with_reducible refine then_normal ?_) | (with_reducible refine in_normal ?_))))
  go_wp2_with ((with_reducible refine (HFM.out _ _).mono ?_); rintro e w' ⟨rfl, rfl⟩)
  go_ret2
  exact ⟨rfl, (Only.refl _ w).drewN _⟩

set_option maxRecDepth 100000 in
set_option maxHeartbeats 1600000 in
theorem sum_false_12 : SumAt false 12 := by
  rintro ⟨⟨x1, x2⟩, len, l⟩
  obtain ⟨R31, h31⟩ := rot_31
  obtain ⟨R33, h33⟩ := rot_33
  obtain ⟨FM, hfm⟩ := fmix
  have H31 := Lib.hid h31
  have H33 := Lib.hid h33
  have HFM := Lib.hid hfm
  clear h31 h33 hfm
  apply Exists.intro
  apply Exists.intro
  intro w p a cap d h
  obtain ⟨c0, c1, f0, f1⟩ := d.cells
  have hbd := h.1.bound
  obtain ⟨b, off, rfl, hb, hc⟩ := h.at (by omega)
  have e0 : w.cell? ⟨b, off, none⟩ = some (.int .u8 (l.getD 0 0 : Nat)) := hc 0 (by omega)
  have e1 := hc 1 (by omega)
  have e2 := hc 2 (by omega)
  have e3 := hc 3 (by omega)
  have e4 := hc 4 (by omega)
  have e5 := hc 5 (by omega)
  have e6 := hc 6 (by omega)
  have e7 := hc 7 (by omega)
  have e8 := hc 8 (by omega)
  have e9 := hc 9 (by omega)
  have e10 := hc 10 (by omega)
  have e11 := hc 11 (by omega)
  clear hc
  clear h d
  have hb2 : bits .and .i64 12 15 = 12 := by decide
  go_enter Try.func69, Try.ntmps69
  go_wp2_with fail
  go_quiet (fail)
  go_upto_region 43 with (first | ((with_reducible refine (H31.out _ _).mono ?_); rintro e w' ⟨rfl, rfl⟩) | ((with_reducible refine (H33.out _ _).mono ?_); rintro e w' ⟨rfl, rfl⟩) | ((with_reducible refine wp_exit ?_); repeat (first | (with_reducible refine in_hit ?_) | ((with_reducible refine in_pass ?_ ?_); decide) | (with_reducible refine then_exit ?_) | (with_reducible refine then_normal ?_) | (with_reducible refine in_normal ?_))))
  go_upto_region 82 with (first | ((with_reducible refine (H31.out _ _).mono ?_); rintro e w' ⟨rfl, rfl⟩) | ((with_reducible refine (H33.out _ _).mono ?_); rintro e w' ⟨rfl, rfl⟩) | ((with_reducible refine wp_exit ?_); repeat (first | (with_reducible refine in_hit ?_) | ((with_reducible refine in_pass ?_ ?_); decide) | (with_reducible refine then_exit ?_) | (with_reducible refine then_normal ?_) | (with_reducible refine in_normal ?_))))
  go_wp2_with ((with_reducible refine (HFM.out _ _).mono ?_); rintro e w' ⟨rfl, rfl⟩)
  go_ret2
  exact ⟨rfl, (Only.refl _ w).drewN _⟩

set_option maxRecDepth 100000 in
set_option maxHeartbeats 1600000 in
theorem sum_false_13 : SumAt false 13 := by
  rintro ⟨⟨x1, x2⟩, len, l⟩
  obtain ⟨R31, h31⟩ := rot_31
  obtain ⟨R33, h33⟩ := rot_33
  obtain ⟨FM, hfm⟩ := fmix
  have H31 := Lib.hid h31
  have H33 := Lib.hid h33
  have HFM := Lib.hid hfm
  clear h31 h33 hfm
  apply Exists.intro
  apply Exists.intro
  intro w p a cap d h
  obtain ⟨c0, c1, f0, f1⟩ := d.cells
  have hbd := h.1.bound
  obtain ⟨b, off, rfl, hb, hc⟩ := h.at (by omega)
  have e0 : w.cell? ⟨b, off, none⟩ = some (.int .u8 (l.getD 0 0 : Nat)) := hc 0 (by omega)
  have e1 := hc 1 (by omega)
  have e2 := hc 2 (by omega)
  have e3 := hc 3 (by omega)
  have e4 := hc 4 (by omega)
  have e5 := hc 5 (by omega)
  have e6 := hc 6 (by omega)
  have e7 := hc 7 (by omega)
  have e8 := hc 8 (by omega)
  have e9 := hc 9 (by omega)
  have e10 := hc 10 (by omega)
  have e11 := hc 11 (by omega)
  have e12 := hc 12 (by omega)
  clear hc
  clear h d
  have hb2 : bits .and .i64 13 15 = 13 := by decide
  go_enter Try.func69, Try.ntmps69
  go_wp2_with fail
  go_quiet (fail)
  go_upto_region 43 with (first | ((with_reducible refine (H31.out _ _).mono ?_); rintro e w' ⟨rfl, rfl⟩) | ((with_reducible refine (H33.out _ _).mono ?_); rintro e w' ⟨rfl, rfl⟩) | ((with_reducible refine wp_exit ?_); repeat (first | (with_reducible refine in_hit ?_) | ((with_reducible refine in_pass ?_ ?_); decide) | (with_reducible refine then_exit ?_) | (with_reducible refine then_normal ?_) | (with_reducible refine in_normal ?_))))
  go_upto_region 82 with (first | ((with_reducible refine (H31.out _ _).mono ?_); rintro e w' ⟨rfl, rfl⟩) | ((with_reducible refine (H33.out _ _).mono ?_); rintro e w' ⟨rfl, rfl⟩) | ((with_reducible refine wp_exit ?_); repeat (first | (with_reducible refine in_hit ?_) | ((with_reducible refine in_pass ?_ ?_); decide) | (with_reducible refine then_exit ?_) | (with_reducible refine then_normal ?_) | (with_reducible refine in_normal ?_))))
  go_wp2_with ((with_reducible refine (HFM.out _ _).mono ?_); rintro e w' ⟨rfl, rfl⟩)
  go_ret2
  exact ⟨rfl, (Only.refl _ w).drewN _⟩

set_option maxRecDepth 100000 in
set_option maxHeartbeats 1600000 in
theorem sum_false_14 : SumAt false 14 := by
  rintro ⟨⟨x1, x2⟩, len, l⟩
  obtain ⟨R31, h31⟩ := rot_31
  obtain ⟨R33, h33⟩ := rot_33
  obtain ⟨FM, hfm⟩ := fmix
  have H31 := Lib.hid h31
  have H33 := Lib.hid h33
  have HFM := Lib.hid hfm
  clear h31 h33 hfm
  apply Exists.intro
  apply Exists.intro
  intro w p a cap d h
  obtain ⟨c0, c1, f0, f1⟩ := d.cells
  have hbd := h.1.bound
  obtain ⟨b, off, rfl, hb, hc⟩ := h.at (by omega)
  have e0 : w.cell? ⟨b, off, none⟩ = some (.int .u8 (l.getD 0 0 : Nat)) := hc 0 (by omega)
  have e1 := hc 1 (by omega)
  have e2 := hc 2 (by omega)
  have e3 := hc 3 (by omega)
  have e4 := hc 4 (by omega)
  have e5 := hc 5 (by omega)
  have e6 := hc 6 (by omega)
  have e7 := hc 7 (by omega)
  have e8 := hc 8 (by omega)
  have e9 := hc 9 (by omega)
  have e10 := hc 10 (by omega)
  have e11 := hc 11 (by omega)
  have e12 := hc 12 (by omega)
  have e13 := hc 13 (by omega)
  clear hc
  clear h d
  have hb2 : bits .and .i64 14 15 = 14 := by decide
  go_enter Try.func69, Try.ntmps69
  go_wp2_with fail
  go_quiet (fail)
  go_upto_region 43 with (first | ((with_reducible refine (H31.out _ _).mono ?_); rintro e w' ⟨rfl, rfl⟩) | ((with_reducible refine (H33.out _ _).mono ?_); rintro e w' ⟨rfl, rfl⟩) | ((with_reducible refine wp_exit ?_); repeat (first | (with_reducible refine in_hit ?_) | ((with_reducible refine in_pass ?_ ?_); decide) | (with_reducible refine then_exit ?_) | (with_reducible refine then_normal ?_) | (with_reducible refine in_normal ?_))))
  go_upto_region 82 with (first | ((with_reducible refine (H31.out _ _).mono ?_); rintro e w' ⟨rfl, rfl⟩) | ((with_reducible refine (H33.out _ _).mono ?_); rintro e w' ⟨rfl, rfl⟩) | ((with_reducible refine wp_exit ?_); repeat (first | (with_reducible refine in_hit ?_) | ((with_reducible refine in_pass ?_ ?_); decide) | (with_reducible refine then_exit ?_) | (with_reducible refine then_normal ?_) | (with_reducible refine in_normal ?_))))
  go_wp2_with ((with_reducible refine (HFM.out _ _).mono ?_); rintro e w' ⟨rfl, rfl⟩)
  go_ret2
  exact ⟨rfl, (Only.refl _ w).drewN _⟩

set_option maxRecDepth 100000 in
set_option maxHeartbeats 1600000 in
theorem sum_false_15 : SumAt false 15 := by
  rintro ⟨⟨x1, x2⟩, len, l⟩
  obtain ⟨R31, h31⟩ := rot_31
  obtain ⟨R33, h33⟩ := rot_33
  obtain ⟨FM, hfm⟩ := fmix
  have H31 := Lib.hid h31
  have H33 := Lib.hid h33
  have HFM := Lib.hid hfm
  clear h31 h33 hfm
  apply Exists.intro
  apply Exists.intro
  intro w p a cap d h
  obtain ⟨c0, c1, f0, f1⟩ := d.cells
  have hbd := h.1.bound
  obtain ⟨b, off, rfl, hb, hc⟩ := h.at (by omega)
  have e0 : w.cell? ⟨b, off, none⟩ = some (.int .u8 (l.getD 0 0 : Nat)) := hc 0 (by omega)
  have e1 := hc 1 (by omega)
  have e2 := hc 2 (by omega)
  have e3 := hc 3 (by omega)
  have e4 := hc 4 (by omega)
  have e5 := hc 5 (by omega)
  have e6 := hc 6 (by omega)
  have e7 := hc 7 (by omega)
  have e8 := hc 8 (by omega)
  have e9 := hc 9 (by omega)
  have e10 := hc 10 (by omega)
  have e11 := hc 11 (by omega)
  have e12 := hc 12 (by omega)
  have e13 := hc 13 (by omega)
  have e14 := hc 14 (by omega)
  clear hc
  clear h d
  have hb2 : bits .and .i64 15 15 = 15 := by decide
  go_enter Try.func69, Try.ntmps69
  go_wp2_with fail
  go_quiet (fail)
  go_upto_region 43 with (first | ((with_reducible refine (H31.out _ _).mono ?_); rintro e w' ⟨rfl, rfl⟩) | ((with_reducible refine (H33.out _ _).mono ?_); rintro e w' ⟨rfl, rfl⟩) | ((with_reducible refine wp_exit ?_); repeat (first | (with_reducible refine in_hit ?_) | ((with_reducible refine in_pass ?_ ?_); decide) | (with_reducible refine then_exit ?_) | (with_reducible refine then_normal ?_) | (with_reducible refine in_normal ?_))))
  go_upto_region 82 with (first | ((with_reducible refine (H31.out _ _).mono ?_); rintro e w' ⟨rfl, rfl⟩) | ((with_reducible refine (H33.out _ _).mono ?_); rintro e w' ⟨rfl, rfl⟩) | ((with_reducible refine wp_exit ?_); repeat (first | (with_reducible refine in_hit ?_) | ((with_reducible refine in_pass ?_ ?_); decide) | (with_reducible refine then_exit ?_) | (with_reducible refine then_normal ?_) | (with_reducible refine in_normal ?_))))
  go_wp2_with ((with_reducible refine (HFM.out _ _).mono ?_); rintro e w' ⟨rfl, rfl⟩)
  go_ret2
  exact ⟨rfl, (Only.refl _ w).drewN _⟩
end Go.Proofs.Ytpiajkabikbdnaa.bs

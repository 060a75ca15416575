/-
  sum128: the two numbers hang on the running hash, the length and the tail's bytes alone.
-/
import Derived.Test.YtpiajkabikbdnaaMur
import Derived.Test.YtpiajkabikbdnaaExit
import Derived.Deep.Cut
namespace Go.Proofs.Ytpiajkabikbdnaa.bs
open Go.RowKit Go.Proofs.Ytpiajkabikbdnaa.base Go.Proofs.Ytpiajkabikbdnaa.heap Go.Proofs.Ytpiajkabikbdnaa.bit
set_option linter.unusedVariables false


set_option maxRecDepth 100000 in
set_option maxHeartbeats 1600000 in
theorem sum_false_0 : SumAt false 0 := by
  rintro ⟨⟨x1, x2⟩, len, l⟩
  obtain ⟨R31, h31⟩ := rot_31
  obtain ⟨R33, h33⟩ := rot_33
  obtain ⟨FM, hfm⟩ := fmix
  have H31 := Lib.hid h31
  have H33 := Lib.hid h33
  have HFM := Lib.hid hfm
  clear h31 h33 hfm
  apply Exists.intro
  apply Exists.intro
  intro w p a cap d h
  obtain ⟨c0, c1, f0, f1⟩ := d.cells
  have hbd := h.1.bound
  clear h d
  have hb2 : bits .and .i64 0 15 = 0 := by decide
  go_enter Try.func69, Try.ntmps69
  go_wp2_with fail
  go_quiet (fail)
  go_upto_region 43 with (first | ((with_reducible refine (H31.out _ _).mono ?_); rintro e w' ⟨rfl, rfl⟩) | ((with_reducible refine (H33.out _ _).mono ?_); rintro e w' ⟨rfl, rfl⟩) | ((with_reducible refine wp_exit ?_); repeat (first | (with_reducible refine in_hit ?_) | ((with_reducible refine in_pass ?_ ?_); decide) | (with_reducible refine then_exit ?_) | (with_reducible refine then_normal ?_) | (with_reducible refine in_normal ?_))))
  go_upto_region 82 with (first | ((with_reducible refine (H31.out _ _).mono ?_); rintro e w' ⟨rfl, rfl⟩) | ((with_reducible refine (H33.out _ _).mono ?_); rintro e w' ⟨rfl, rfl⟩) | ((with_reducible refine wp_exit ?_); repeat (first | (with_reducible refine in_hit ?_) | ((with_reducible refine in_pass ?_ ?_); decide) | (with_reducible refine then_exit ?_) | (with_reducible refine then_normal ?_) | (with_reducible refine in_normal ?_))))
  go_wp2_with ((with_reducible refine (HFM.out _ _).mono ?_); rintro e w' ⟨rfl, rfl⟩)
  go_ret2
  exact ⟨rfl, (Only.refl _ w).drewN _⟩

set_option maxRecDepth 100000 in
set_option maxHeartbeats 1600000 in
theorem sum_false_1 : SumAt false 1 := by
  rintro ⟨⟨x1, x2⟩, len, l⟩
  obtain ⟨R31, h31⟩ := rot_31
  obtain ⟨R33, h33⟩ := rot_33
  obtain ⟨FM, hfm⟩ := fmix
  have H31 := Lib.hid h31
  have H33 := Lib.hid h33
  have HFM := Lib.hid hfm
  clear h31 h33 hfm
  apply Exists.intro
  apply Exists.intro
  intro w p a cap d h
  obtain ⟨c0, c1, f0, f1⟩ := d.cells
  have hbd := h.1.bound
  obtain ⟨b, off, rfl, hb, hc⟩ := h.at (by omega)
  have e0 : w.cell? ⟨b, off, none⟩ = some (.int .u8 (l.getD 0 0 : Nat)) := hc 0 (by omega)
  clear hc
  clear h d
  have hb2 : bits .and .i64 1 15 = 1 := by decide
  go_enter Try.func69, Try.ntmps69
  go_wp2_with fail
  go_quiet (fail)
  go_upto_region 43 with (first | ((with_reducible refine (H31.out _ _).mono ?_); rintro e w' ⟨rfl, rfl⟩) | ((with_reducible refine (H33.out _ _).mono ?_); rintro e w' ⟨rfl, rfl⟩) | ((with_reducible refine wp_exit ?_); repeat (first | (with_reducible refine in_hit ?_) | ((with_reducible refine in_pass ?_ ?_); decide) | (with_reducible refine then_exit ?_) | (with_reducible refine then_normal ?_) | (with_reducible refine in_normal ?_))))
  go_upto_region 82 with (first | ((with_reducible refine (H31.out _ _).mono ?_); rintro e w' ⟨rfl, rfl⟩) | ((with_reducible refine (H33.out _ _).mono ?_); rintro e w' ⟨rfl, rfl⟩) | ((with_reducible refine wp_exit ?_); repeat (first | (with_reducible refine in_hit ?_) | ((with_reducible refine in_pass ?_ ?_); decide) | (with_reducible refine then_exit ?_) | (with_reducible refine then_normal ?_) | (with_reducible refine in_normal ?_))))
  go_wp2_with ((with_reducible refine (HFM.out _ _).mono ?_); rintro e w' ⟨rfl, rfl⟩)
  go_ret2
  exact ⟨rfl, (Only.refl _ w).drewN _⟩

set_option maxRecDepth 100000 in
set_option maxHeartbeats 1600000 in
theorem sum_false_2 : SumAt false 2 := by
  rintro ⟨⟨x1, x2⟩, len, l⟩
  obtain ⟨R31, h31⟩ := rot_31
  obtain ⟨R33, h33⟩ := rot_33
  obtain ⟨FM, hfm⟩ := fmix
  have H31 := Lib.hid h31
  have H33 := Lib.hid h33
  have HFM := Lib.hid hfm
  clear h31 h33 hfm
  apply Exists.intro
  apply Exists.intro
  intro w p a cap d h
  obtain ⟨c0, c1, f0, f1⟩ := d.cells
  have hbd := h.1.bound
  obtain ⟨b, off, rfl, hb, hc⟩ := h.at (by omega)
  have e0 : w.cell? ⟨b, off, none⟩ = some (.int .u8 (l.getD 0 0 : Nat)) := hc 0 (by omega)
  have e1 := hc 1 (by omega)
  clear hc
  clear h d
  have hb2 : bits .and .i64 2 15 = 2 := by decide
  go_enter Try.func69, Try.ntmps69
  go_wp2_with fail
  go_quiet (fail)
  go_upto_region 43 with (first | ((with_reducible refine (H31.out _ _).mono ?_); rintro e w' ⟨rfl, rfl⟩) | ((with_reducible refine (H33.out _ _).mono ?_); rintro e w' ⟨rfl, rfl⟩) | ((with_reducible refine wp_exit ?_); repeat (first | (with_reducible refine in_hit ?_) | ((with_reducible refine in_pass ?_ ?_); decide) | (with_reducible refine then_exit ?_) | (with_reducible refine then_normal ?_) | (with_reducible refine in_normal ?_))))
  go_upto_region 82 with (first | ((with_reducible refine (H31.out _ _).mono ?_); rintro e w' ⟨rfl, rfl⟩) | ((with_reducible refine (H33.out _ _).mono ?_); rintro e w' ⟨rfl, rfl⟩) | ((with_reducible refine wp_exit ?_); repeat (first | (with_reducible refine in_hit ?_) | ((with_reducible refine in_pass ?_ ?_); decide) | (with_reducible refine then_exit ?_) | (with_reducible refine then_normal ?_) | (with_reducible refine in_normal ?_))))
  go_wp2_with ((with_reducible refine (HFM.out _ _).mono ?_); rintro e w' ⟨rfl, rfl⟩)
  go_ret2
  exact ⟨rfl, (Only.refl _ w).drewN _⟩

set_option maxRecDepth 100000 in
set_option maxHeartbeats 1600000 in
theorem sum_false_3 : SumAt false 3 := by
  rintro ⟨⟨x1, x2⟩, len, l⟩
  obtain ⟨R31, h31⟩ := rot_31
  obtain ⟨R33, h33⟩ := rot_33
  obtain ⟨FM, hfm⟩ := fmix
  have H31 := Lib.hid h31
  have H33 := Lib.hid h33
  have HFM := Lib.hid hfm
  clear h31 h33 hfm
  apply Exists.intro
  apply Exists.intro
  intro w p a cap d h
  obtain ⟨c0, c1, f0, f1⟩ := d.cells
  have hbd := h.1.bound
  obtain ⟨b, off, rfl, hb, hc⟩ := h.at (by omega)
  have e0 : w.cell? ⟨b, off, none⟩ = some (.int .u8 (l.getD 0 0 : Nat)) := hc 0 (by omega)
  have e1 := hc 1 (by omega)
  have e2 := hc 2 (by omega)
  clear hc
  clear h d
  have hb2 : bits .and .i64 3 15 = 3 := by decide
  go_enter Try.func69, Try.ntmps69
  go_wp2_with fail
  go_quiet (fail)
  go_upto_region 43 with (first | ((with_reducible refine (H31.out _ _).mono ?_); rintro e w' ⟨rfl, rfl⟩) | ((with_reducible refine (H33.out _ _).mono ?_); rintro e w' ⟨rfl, rfl⟩) | ((with_reducible refine wp_exit ?_); repeat (first | (with_reducible refine in_hit ?_) | ((with_reducible refine in_pass ?_ ?_); decide) | (with_reducible refine then_exit ?_) | (with_reducible refine then_normal ?_) | (with_reducible refine in_normal ?_))))
  go_upto_region 82 with (first | ((with_reducible refine (H31.out _ _).mono ?_); rintro e w' ⟨rfl, rfl⟩) | ((with_reducible refine (H33.out _ _).mono ?_); rintro e w' ⟨rfl, rfl⟩) | ((with_reducible refine wp_exit ?_); repeat (first | (with_reducible refine in_hit ?_) | ((with_reducible refine in_pass ?_ ?_); decide) | (with_reducible refine then_exit ?_) | (with_reducible refine then_normal ?_) | (with_reducible refine in_normal ?_))))
  go_wp2_with ((with_reducible refine (HFM.out _ _).mono ?_); rintro e w' ⟨rfl, rfl⟩)
  go_ret2
  exact ⟨rfl, (Only.refl _ w).drewN _⟩

set_option maxRecDepth 100000 in
set_option maxHeartbeats 1600000 in
theorem sum_false_4 : SumAt false 4 := by
  rintro ⟨⟨x1, x2⟩, len, l⟩
  obtain ⟨R31, h31⟩ := rot_31
  obtain ⟨R33, h33⟩ := rot_33
  obtain ⟨FM, hfm⟩ := fmix
  have H31 := Lib.hid h31
  have H33 := Lib.hid h33
  have HFM := Lib.hid hfm
  clear h31 h33 hfm
  apply Exists.intro
  apply Exists.intro
  intro w p a cap d h
  obtain ⟨c0, c1, f0, f1⟩ := d.cells
  have hbd := h.1.bound
  obtain ⟨b, off, rfl, hb, hc⟩ := h.at (by omega)
  have e0 : w.cell? ⟨b, off, none⟩ = some (.int .u8 (l.getD 0 0 : Nat)) := hc 0 (by omega)
  have e1 := hc 1 (by omega)
  have e2 := hc 2 (by omega)
  have e3 := hc 3 (by omega)
  clear hc
  clear h d
  have hb2 : bits .and .i64 4 15 = 4 := by decide
  go_enter Try.func69, Try.ntmps69
  go_wp2_with fail
  go_quiet (fail)
  go_upto_region 43 with (first | ((with_reducible refine (H31.out _ _).mono ?_); rintro e w' ⟨rfl, rfl⟩) | ((with_reducible refine (H33.out _ _).mono ?_); rintro e w' ⟨rfl, rfl⟩) | ((with_reducible refine wp_exit ?_); repeat (first | (with_reducible refine in_hit ?_) | ((with_reducible refine in_pass ?_ ?_); decide) | (with_reducible refine then_exit ?_) | (with_reducible refine then_normal ?_) | (with_reducible refine in_normal ?_))))
  go_upto_region 82 with (first | ((with_reducible refine (H31.out _ _).mono ?_); rintro e w' ⟨rfl, rfl⟩) | ((with_reducible refine (H33.out _ _).mono ?_); rintro e w' ⟨rfl, rfl⟩) | ((with_reducible refine wp_exit ?_); repeat (first | (with_reducible refine in_hit ?_) | ((with_reducible refine in_pass ?_ ?_); decide) | (with_reducible refine then_exit ?_) | (with_reducible refine then_normal ?_) | (with_reducible refine in_normal ?_))))
  go_wp2_with ((with_reducible refine (HFM.out _ _).mono ?_); rintro e w' ⟨rfl, rfl⟩)
  go_ret2
  exact ⟨rfl, (Only.refl _ w).drewN _⟩

set_option maxRecDepth 100000 in
set_option maxHeartbeats 1600000 in
theorem sum_false_5 : SumAt false 5 := by
  rintro ⟨⟨x1, x2⟩, len, l⟩
  obtain ⟨R31, h31⟩ := rot_31
  obtain ⟨R33, h33⟩ := rot_33
  obtain ⟨FM, hfm⟩ := fmix
  have H31 := Lib.hid h31
  have H33 := Lib.hid h33
  have HFM := Lib.hid hfm
  clear h31 h33 hfm
  apply Exists.intro
  apply Exists.intro
  intro w p a cap d h
  obtain ⟨c0, c1, f0, f1⟩ := d.cells
  have hbd := h.1.bound
  obtain ⟨b, off, rfl, hb, hc⟩ := h.at (by omega)
  have e0 : w.cell? ⟨b, off, none⟩ = some (.int .u8 (l.getD 0 0 : Nat)) := hc 0 (by omega)
  have e1 := hc 1 (by omega)
  have e2 := hc 2 (by omega)
  have e3 := hc 3 (by omega)
  have e4 := hc 4 (by omega)
  clear hc
  clear h d
  have hb2 : bits .and .i64 5 15 = 5 := by decide
  go_enter Try.func69, Try.ntmps69
  go_wp2_with fail
  go_quiet (fail)
  go_upto_region 43 with (first | ((with_reducible refine (H31.out _ _).mono ?_); rintro e w' ⟨rfl, rfl⟩) | ((with_reducible refine (H33.out _ _).mono ?_); rintro e w' ⟨rfl, rfl⟩) | ((with_reducible refine wp_exit ?_); repeat (first | (with_reducible refine in_hit ?_) | ((with_reducible refine in_pass ?_ ?_); decide) | (with_reducible refine then_exit ?_) | (with_reducible refine then_normal ?_) | (with_reducible refine in_normal ?_))))
  go_upto_region 82 with (first | ((with_reducible refine (H31.out _ _).mono ?_); rintro e w' ⟨rfl, rfl⟩) | ((with_reducible refine (H33.out _ _).mono ?_); rintro e w' ⟨rfl, rfl⟩) | ((with_reducible refine wp_exit ?_); repeat (first | (with_reducible refine in_hit ?_) | ((with_reducible refine in_pass ?_ ?_); decide) | (with_reducible refine then_exit ?_) | (with_reducible refine then_normal ?_) | (with_reducible refine in_normal ?_))))
  go_wp2_with ((with_reducible refine (HFM.out _ _).mono ?_); rintro e w' ⟨rfl, rfl⟩)
  go_ret2
  exact ⟨rfl, (Only.refl _ w).drewN _⟩

set_option maxRecDepth 100000 in
set_option maxHeartbeats 1600000 in
theorem sum_false_6 : SumAt false 6 := by
  rintro ⟨⟨x1, x2⟩, len, l⟩
  obtain ⟨R31, h31⟩ := rot_31
  obtain ⟨R33, h33⟩ := rot_33
  obtain ⟨FM, hfm⟩ := fmix
  have H31 := Lib.hid h31
  have H33 := Lib.hid h33
  have HFM := Lib.hid hfm
  clear h31 h33 hfm
  apply Exists.intro
  apply Exists.intro
  intro w p a cap d h
  obtain ⟨c0, c1, f0, f1⟩ := d.cells
  have hbd := h.1.bound
  obtain ⟨b, off, rfl, hb, hc⟩ := h.at (by omega)
  have e0 : w.cell? ⟨b, off, none⟩ = some (.int .u8 (l.getD 0 0 : Nat)) := hc 0 (by omega)
  have e1 := hc 1 (by omega)
  have e2 := hc 2 (by omega)
  have e3 := hc 3 (by omega)
  have e4 := hc 4 (by omega)
  have e5 := hc 5 (by omega)
  clear hc
  clear h d
  have hb2 : bits .and .i64 6 15 = 6 := by decide
  go_enter Try.func69, Try.ntmps69
  go_wp2_with fail
  go_quiet (fail)
  go_upto_region 43 with (first | ((with_reducible refine (H31.out _ _).mono ?_); rintro e w' ⟨rfl, rfl⟩) | ((with_reducible refine (H33.out _ _).mono ?_); rintro e w' ⟨rfl, rfl⟩) | ((with_reducible refine wp_exit ?_); repeat (first | (with_reducible refine in_hit ?_) | ((with_reducible refine in_pass ?_ ?_); decide) | (with_reducible refine then_exit ?_) | (with_reducible refine then_normal ?_) | (with_reducible refine in_normal ?_))))
  go_upto_region 82 with (first | ((with_reducible refine (H31.out _ _).mono ?_); rintro e w' ⟨rfl, rfl⟩) | ((with_reducible refine (H33.out _ _).mono ?_); rintro e w' ⟨rfl, rfl⟩) | ((with_reducible refine wp_exit ?_); repeat (first | (with_reducible refine in_hit ?_) | ((with_reducible refine in_pass ?_ ?_); decide) | (with_reducible refine then_exit ?_) | (with_reducible refine then_normal ?_) | (with_reducible refine in_normal ?_))))
  go_wp2_with ((with_reducible refine (HFM.out _ _).mono ?_); rintro e w' ⟨rfl, rfl⟩)
  go_ret2
  exact ⟨rfl, (Only.refl _ w).drewN _⟩

set_option maxRecDepth 100000 in
set_option maxHeartbeats 1600000 in
theorem sum_false_7 : SumAt false 7 := by
  rintro ⟨⟨x1, x2⟩, len, l⟩
  obtain ⟨R31, h31⟩ := rot_31
  obtain ⟨R33, h33⟩ := rot_33
  obtain ⟨FM, hfm⟩ := fmix
  have H31 := Lib.hid h31
  have H33 := Lib.hid h33
  have HFM := Lib.hid hfm
  clear h31 h33 hfm
  apply Exists.intro
  apply Exists.intro
  intro w p a cap d h
  obtain ⟨c0, c1, f0, f1⟩ := d.cells
  have hbd := h.1.bound
  obtain ⟨b, off, rfl, hb, hc⟩ := h.at (by omega)
  have e0 : w.cell? ⟨b, off, none⟩ = some (.int .u8 (l.getD 0 0 : Nat)) := hc 0 (by omega)
  have e1 := hc 1 (by omega)
  have e2 := hc 2 (by omega)
  have e3 := hc 3 (by omega)
  have e4 := hc 4 (by omega)
  have e5 := hc 5 (by omega)
  have e6 := hc 6 (by omega)
  clear hc
  clear h d
  have hb2 : bits .and .i64 7 15 = 7 := by decide
  go_enter Try.func69, Try.ntmps69
  go_wp2_with fail
  go_quiet (fail)
  go_upto_region 43 with (first | ((with_reducible refine (H31.out _ _).mono ?_); rintro e w' ⟨rfl, rfl⟩) | ((with_reducible refine (H33.out _ _).mono ?_); rintro e w' ⟨rfl, rfl⟩) | ((with_reducible refine wp_exit ?_); repeat (first | (with_reducible refine in_hit ?_) | ((with_reducible refine in_pass ?_ ?_); decide) | (with_reducible refine then_exit ?_) | (with_reducible refine then_normal ?_) | (with_reducible refine in_normal ?_))))
  go_upto_region 82 with (first | ((with_reducible refine (H31.out _ _).mono ?_); rintro e w' ⟨rfl, rfl⟩) | ((with_reducible refine (H33.out _ _).mono ?_); rintro e w' ⟨rfl, rfl⟩) | ((with_reducible refine wp_exit ?_); repeat (first | (with_reducible refine in_hit ?_) | ((with_reducible refine in_pass ?_ ?_); decide) | (with_reducible refine then_exit ?_) | (with_reducible refine then_normal ?_) | (with_reducible refine in_normal ?_))))
  go_wp2_with ((with_reducible refine (HFM.out _ _).mono ?_); rintro e w' ⟨rfl, rfl⟩)
  go_ret2
  exact ⟨rfl, (Only.refl _ w).drewN _⟩
end Go.Proofs.Ytpiajkabikbdnaa.bs

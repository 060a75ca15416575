/-
  BSNew, BSFrom, BSFromWithLength of the thin package. Printed by a program of mine (implgen_f).
-/
import Derived.Test.YtjmgidedaodlpaaBsFrom
import Derived.Test.YtjmgidedaodlpaaBsSet64
namespace Go.Proofs.Ytjmgidedaodlpaa.bs
open Go.RowKit Go.Proofs.Ytjmgidedaodlpaa.base Go.Proofs.Ytjmgidedaodlpaa.heap Go.Proofs.Ytjmgidedaodlpaa.bit
set_option linter.unusedVariables false

set_option maxRecDepth 100000 in
set_option maxHeartbeats 800000 in
theorem implFrom (a : Option Addr) (n cap : Nat) (l : List Nat) (b : List Bool) (w : World) (h : RU w a n cap l) (h0 : 0 < n) (hlt : Ok l) (hn : b.length ≤ 1048576) (hr : b.length = 64 * n) (hb : ∀ i, bit l i = b.getD i false) :
    Calls Try.prog 13 #[.slice a n cap] w (RetBits b w) := by
  have hW : Same w (w.alloc (.cells #[.int .u64 0, .slice none 0 0] 33)) := (Only.refl _ w).alloc _
  have hres : (w.alloc (.cells #[.int .u64 0, .slice none 0 0] 33)).heap[w.heap.size]? = some (.cells #[.int .u64 0, .slice none 0 0] 33 (0, 0)) := heap_alloc_new _ _
  have HW := Lib.hid hW
  have HR := Lib.hid hres
  have HC := Lib.hid (words a n cap l _ (h.keep hW (fun _ _ => id)) h0 (by omega))
  have HB := Lib.hid hb
  have HL : Hid (l.length = n) := Lib.hid h.2
  have HLEN := Lib.hid hr
  clear h hb hr
  clear hW hres
  go_enter Try.func13, Try.ntmps13
  go_wp2_with fail
  refine HC.out.mono ?_
  rintro e w1 ⟨a1, cap1, rfl, hown, hne, hO1, hf1⟩
  have HO1 : Hid (Same (w.alloc (.cells #[.int .u64 0, .slice none 0 0] 33)) w1) := Lib.hid hO1
  have HF := Lib.hid (from_all b a1 n cap1 l w1 hown HL.out hne hlt hn HLEN.out HB.out)
  clear hown hne hO1 hf1
  go_wp2_with fail
  refine HF.out.mono ?_
  rintro e w2 ⟨o, rfl, hok, hrep, hO2⟩
  have HO2 : Hid (Same (w.alloc (.cells #[.int .u64 0, .slice none 0 0] 33)) w2) := Lib.hid (Same.trans HO1.out hO2)
  have HS2 := Lib.hid (said64 o b w2 hok hrep hn)
  clear hok hrep hO2
  go_wp2_with fail
  refine HS2.out.mono ?_
  rintro e w3 ⟨a3, m3, cap3, rfl, hu3, hO3, hf3⟩
  have HT := Lib.hid (told_mk (S := fun _ => False) HW.out (Nat.le_refl _) HR.out HO2.out (fun _ f => nomatch f) (Only.refl _ _) hO3 hu3 hf3)
  have r0 : w3.cell? ⟨w.heap.size, 0, none⟩ = some (.int .u64 0) := block_cell HT.out.res rfl
  have r1 : w3.cell? ⟨w.heap.size, 1, none⟩ = some (.slice none 0 0) := block_cell HT.out.res rfl
  have rf0 : w3.frozen? ⟨w.heap.size, 0, none⟩ = false := block_free HT.out.res
  have rf1 : w3.frozen? ⟨w.heap.size, 1, none⟩ = false := block_free HT.out.res
  clear hu3 hO3 hf3
  go_wp2_with fail
  refine bodyPost_ret (v := .agg #[.int .u64 (b.length : Int), .slice a3 m3 cap3]) ?_ rfl HT.out.ret
  simp [results, Try.results13, go_sem, r0, r1]

set_option maxRecDepth 100000 in
set_option maxHeartbeats 800000 in
theorem implFromWithLength (a : Option Addr) (n cap : Nat) (l : List Nat) (b : List Bool) (w : World) (h : RU w a n cap l) (h0 : 0 < n) (hm : n ≤ 1048576) (hlt : Ok l) (hn : b.length ≤ 1048576) (hr : b.length ≤ 64 * n) (hb : ∀ i, bit l i = b.getD i false) :
    Calls Try.prog 15 #[.int .u64 (b.length : Int), .slice a n cap] w (RetBits b w) := by
  have hW : Same w (w.alloc (.cells #[.int .u64 0, .slice none 0 0] 33)) := (Only.refl _ w).alloc _
  have hres : (w.alloc (.cells #[.int .u64 0, .slice none 0 0] 33)).heap[w.heap.size]? = some (.cells #[.int .u64 0, .slice none 0 0] 33 (0, 0)) := heap_alloc_new _ _
  have HW := Lib.hid hW
  have HR := Lib.hid hres
  have HC := Lib.hid (words a n cap l _ (h.keep hW (fun _ _ => id)) h0 (by omega))
  have HB := Lib.hid hb
  have HL : Hid (l.length = n) := Lib.hid h.2
  clear h hb
  clear hW hres
  go_enter Try.func15, Try.ntmps15
  go_wp2_with fail
  refine HC.out.mono ?_
  rintro e w1 ⟨a1, cap1, rfl, hown, hne, hO1, hf1⟩
  have HO1 : Hid (Same (w.alloc (.cells #[.int .u64 0, .slice none 0 0] 33)) w1) := Lib.hid hO1
  have HF := Lib.hid (from_len b a1 n cap1 l w1 hown HL.out hne hlt hn hr hm HB.out)
  clear hown hne hO1 hf1
  go_wp2_with fail
  refine HF.out.mono ?_
  rintro e w2 ⟨o, rfl, hok, hrep, hO2⟩
  have HO2 : Hid (Same (w.alloc (.cells #[.int .u64 0, .slice none 0 0] 33)) w2) := Lib.hid (Same.trans HO1.out hO2)
  have HS2 := Lib.hid (said64 o b w2 hok hrep hn)
  clear hok hrep hO2
  go_wp2_with fail
  refine HS2.out.mono ?_
  rintro e w3 ⟨a3, m3, cap3, rfl, hu3, hO3, hf3⟩
  have HT := Lib.hid (told_mk (S := fun _ => False) HW.out (Nat.le_refl _) HR.out HO2.out (fun _ f => nomatch f) (Only.refl _ _) hO3 hu3 hf3)
  have r0 : w3.cell? ⟨w.heap.size, 0, none⟩ = some (.int .u64 0) := block_cell HT.out.res rfl
  have r1 : w3.cell? ⟨w.heap.size, 1, none⟩ = some (.slice none 0 0) := block_cell HT.out.res rfl
  have rf0 : w3.frozen? ⟨w.heap.size, 0, none⟩ = false := block_free HT.out.res
  have rf1 : w3.frozen? ⟨w.heap.size, 1, none⟩ = false := block_free HT.out.res
  clear hu3 hO3 hf3
  go_wp2_with fail
  refine bodyPost_ret (v := .agg #[.int .u64 (b.length : Int), .slice a3 m3 cap3]) ?_ rfl HT.out.ret
  simp [results, Try.results15, go_sem, r0, r1]

theorem bit_none (k i : Nat) : bit (List.replicate k 0) i = false := by
  unfold bit
  have : (List.replicate k 0).getD (i / 64) 0 = 0 := by
    simp only [List.getD_eq_getElem?_getD, List.getElem?_replicate]
    split <;> rfl
  rw [this]; simp
theorem rep_none {o : O} {b : List Bool} (hb : b = List.replicate b.length false) (h1 : o.n = b.length) (h2 : o.m = (b.length + 63) / 64) (h3 : o.ws = List.replicate ((b.length + 63) / 64) 0) : o.rep b :=
  ⟨h1, by omega, fun i => by
    rw [h3, bit_none, hb]
    simp only [List.getD_eq_getElem?_getD, List.getElem?_replicate]
    split <;> rfl⟩

set_option maxRecDepth 100000 in
set_option maxHeartbeats 800000 in
theorem implNew (b : List Bool) (w : World) (hb : Hid (b = List.replicate b.length false)) (hn : b.length ≤ 1048576) :
    Calls Try.prog 12 #[.int .u64 (b.length : Int)] w (RetBits b w) := by
  have hW : Same w (w.alloc (.cells #[.int .u64 0, .slice none 0 0] 33)) := (Only.refl _ w).alloc _
  have hres : (w.alloc (.cells #[.int .u64 0, .slice none 0 0] 33)).heap[w.heap.size]? = some (.cells #[.int .u64 0, .slice none 0 0] 33 (0, 0)) := heap_alloc_new _ _
  have HW := Lib.hid hW
  have HR := Lib.hid hres
  clear hW hres
  go_enter Try.func12, Try.ntmps12
  go_wp2_with fail
  refine (new b.length _ hn).mono ?_
  rintro e w2 ⟨o, rfl, hok, hn', hm', hws, -, hO2, -⟩
  have hrep := rep_none hb.out hn' hm' hws
  have HO2 : Hid (Same (w.alloc (.cells #[.int .u64 0, .slice none 0 0] 33)) w2) := Lib.hid hO2
  clear hn' hm' hws
  have HS2 := Lib.hid (said64 o b w2 hok hrep hn)
  clear hok hrep hO2
  go_wp2_with fail
  refine HS2.out.mono ?_
  rintro e w3 ⟨a3, m3, cap3, rfl, hu3, hO3, hf3⟩
  have HT := Lib.hid (told_mk (S := fun _ => False) HW.out (Nat.le_refl _) HR.out HO2.out (fun _ f => nomatch f) (Only.refl _ _) hO3 hu3 hf3)
  have r0 : w3.cell? ⟨w.heap.size, 0, none⟩ = some (.int .u64 0) := block_cell HT.out.res rfl
  have r1 : w3.cell? ⟨w.heap.size, 1, none⟩ = some (.slice none 0 0) := block_cell HT.out.res rfl
  have rf0 : w3.frozen? ⟨w.heap.size, 0, none⟩ = false := block_free HT.out.res
  have rf1 : w3.frozen? ⟨w.heap.size, 1, none⟩ = false := block_free HT.out.res
  clear hu3 hO3 hf3
  go_wp2_with fail
  refine bodyPost_ret (v := .agg #[.int .u64 (b.length : Int), .slice a3 m3 cap3]) ?_ rfl HT.out.ret
  simp [results, Try.results12, go_sem, r0, r1]
end Go.Proofs.Ytjmgidedaodlpaa.bs

/-
  The thin package's functions on one bitset: made of Bits, changed, told. Printed by a program of mine.
-/
import Derived.Test.YtjmgidedaodlpaaBsShrink
import Derived.Test.YtjmgidedaodlpaaBsSet64
import Derived.Test.YtjmgidedaodlpaaBsLaw
namespace Go.Proofs.Ytjmgidedaodlpaa.bs
open Go.RowKit Go.Proofs.Ytjmgidedaodlpaa.base Go.Proofs.Ytjmgidedaodlpaa.heap Go.Proofs.Ytjmgidedaodlpaa.bit
set_option linter.unusedVariables false

set_option maxRecDepth 100000 in
set_option maxHeartbeats 800000 in
theorem implShrink (v : Value) (b : List Bool) (d : List Bool) (i : Nat) (w : World) (h : BV w v b) (hn : b.length ≤ 1048000) (hi : i < b.length) (hd : Hid (b.take (i + 1) = d)) :
    Calls Try.prog 26 #[v, .int .u64 (i : Int)] w (RetBits d w) := by
  have hlen : (d).length ≤ 1048576 := by rw [← hd.out, List.length_take]; omega
  obtain ⟨a, m, cap, rfl, hr⟩ := h
  have hW : Only (fun _ => False) w ((w.alloc (.cells #[.int .u64 (b.length : Int), .slice a m cap] 33)).alloc (.cells #[.int .u64 0, .slice none 0 0] 33)) := ((Only.refl _ w).alloc _).alloc _
  have hres : ((w.alloc (.cells #[.int .u64 (b.length : Int), .slice a m cap] 33)).alloc (.cells #[.int .u64 0, .slice none 0 0] 33)).heap[w.heap.size + 1]? = some (.cells #[.int .u64 0, .slice none 0 0] 33 (0, 0)) := heap_alloc_new' _ _ _ (by simp)
  have HS := Lib.hid (set64 (.agg #[.int .u64 (b.length : Int), .slice a m cap]) b _ ⟨a, m, cap, rfl, hr.keep hW (fun _ _ => id)⟩ (by omega))
  have HW := Lib.hid hW
  have HR := Lib.hid hres
  clear hr hW hres
  go_enter Try.func26, Try.ntmps26
  go_wp2_with fail
  refine HS.out.mono ?_
  rintro e w1 ⟨o, rfl, hok, hrep, hm, hO1, hf1⟩
  have hw1 : ∀ k, o.foot k → w.heap.size + 1 + 1 ≤ k := fun k hk => by have := hf1 k hk; simp at this; omega
  have HO1 := Lib.hid hO1
  have HF1 := Lib.hid hf1
  have HM := Lib.hid hm
  clear hO1 hf1 hw1 hm
  go_wp2_with fail
  refine (shrink' o b d i _ hd.out hok hrep hi (by omega)).mono ?_
  rintro e w2 ⟨rfl, o', hp', hok', hrep', hO2, hf2⟩
  have HS2 := Lib.hid (said64_at o o' _ w2 hp' hok' hrep' hlen)
  have HO2 := Lib.hid hO2
  clear hp' hok' hrep' hO2 hf2 hok hrep
  go_wp2_with fail
  refine HS2.out.mono ?_
  rintro e w3 ⟨a3, m3, cap3, rfl, hu3, hO3, hf3⟩
  have HT := Lib.hid (told_mk HW.out (Nat.le_succ _) HR.out HO1.out HF1.out HO2.out hO3 hu3 hf3)
  have r0 : w3.cell? ⟨w.heap.size + 1, 0, none⟩ = some (.int .u64 0) := block_cell HT.out.res rfl
  have r1 : w3.cell? ⟨w.heap.size + 1, 1, none⟩ = some (.slice none 0 0) := block_cell HT.out.res rfl
  have rf0 : w3.frozen? ⟨w.heap.size + 1, 0, none⟩ = false := block_free HT.out.res
  have rf1 : w3.frozen? ⟨w.heap.size + 1, 1, none⟩ = false := block_free HT.out.res
  clear hu3 hO3 hf3
  go_wp2_with fail
  refine bodyPost_ret (v := .agg #[.int .u64 ((d).length : Int), .slice a3 m3 cap3]) ?_ rfl HT.out.ret
  simp [results, Try.results26, go_sem, r0, r1]

/-- truth values, of which the first ones are d -/
def FCut (w0 : World) (b d : List Bool) (i : Nat) (e : Ending) (w' : World) : Prop := ∃ q off cap, e = .returned (.slice (some ⟨q, off, none⟩) b.length cap) ∧ b.length ≤ cap ∧ (i : Int) + 1 ≤ (cap : Int) ∧ RB w' (some ⟨q, off, none⟩) (i + 1) cap d ∧ Same w0 w'
theorem cut_bools (v : Value) (b d : List Bool) (i : Nat) (w0 w : World) (hs : Same w0 w) (h : BV w v b) (hn : b.length ≤ 1048576) (hi : i < b.length) (hd : Hid (b.take (i + 1) = d)) : Calls Try.prog 18 #[v] w (FCut w0 b d i) :=
  (bsBools v b w h hn).mono fun e w' ⟨a, cap, he, hr, hO, hf⟩ => by
    obtain ⟨q, off, rfl, hq, hc⟩ := hr.at (by omega)
    have hb := hr.1.bound
    have h1 := hr.first (i + 1) (by omega)
    rw [hd.out] at h1
    exact ⟨q, off, cap, he, hb.1, by omega, h1, hs.trans hO⟩
theorem make_cut (a : Option Addr) (cap n : Nat) (d : List Bool) (w0 w : World) (hs : Same w0 w) (h : RB w a n cap d) (hn : n ≤ 1048576) : Calls Try.prog 14 #[.slice a n cap] w (FBits w0 d) := by
  have hl := h.2
  subst hl
  exact fbits hs (bsMake a cap d w h hn)
end Go.Proofs.Ytjmgidedaodlpaa.bs

/-
  Bitsets: Clone, sortByLength, Union, Intersection.
-/
import Derived.Test.YthnfoiaemeklnaaBsFlip
import Derived.Test.YthnfoiaemeklnaaBsCount
import Derived.Test.YthnfoiaemeklnaaBsOps2
import Derived.Test.YthnfoiaemeklnaaBsLaw
import Derived.Test.YthnfoiaemeklnaaBsImplEq
namespace Go.Proofs.Ythnfoiaemeklnaa.bs
open Go.RowKit Go.Proofs.Ythnfoiaemeklnaa.base Go.Proofs.Ythnfoiaemeklnaa.heap Go.Proofs.Ythnfoiaemeklnaa.bit
set_option linter.unusedVariables false

/-- the words that a length asks for, no more -/
def O.tight (o : O) (b : List Bool) : Prop := o.m = (b.length + 63) / 64

set_option maxRecDepth 100000 in
set_option maxHeartbeats 1600000 in
theorem clone (o : O) (b : List Bool) (w : World) (h : o.ok w) (hr : o.rep b) (ht : o.tight b) (hn : b.length ≤ 1048000) :
    Calls Try.prog 80 #[o.ptr] w (FObj w b) := by
  obtain ⟨bb, hbb, hp, hb, hne, c0, c1, f0, f1, hc, hf, hmc, hcap⟩ := h.facts
  have hcmp : ∀ wx, (binOp .neq 64 (.slice (some ⟨bb, 0, none⟩) o.m o.cap) (.slice none 0 0)).run Try.prog wx = .ok (.bool true) wx := fun wx => run_neq_slice_nil_any _ _ _ _ _ _ _ _ Try.underlying64
  obtain ⟨k, hk⟩ : ∃ k, (b.length + 63) / 64 = k := ⟨_, rfl⟩
  have hNEW := Lib.hid (new_raw b.length w (by omega) (by omega))
  rw [hk] at hNEW
  have hmk : o.m = k := by rw [← hk]; exact ht
  have hrd := h.own.rd
  rw [hbb] at hrd
  have H := Lib.hid h
  have HR := Lib.hid hr
  have HK := Lib.hid hk
  have HBB := Lib.hid hbb
  rw [hr.len] at c0
  rw [hmk] at c1 hcmp hrd
  have hk2 : k ≤ 20000 := by omega
  have HMK := Lib.hid hmk
  clear hc hf h hr hk ht hbb hmk
  unfold O.ptr
  go_enter Try.func80, Try.ntmps80
  go_wp2_with fail
  refine hNEW.out.mono ?_
  rintro e w1 ⟨rfl, hw1⟩
  have hO1 : Same w w1 := by rw [hw1]; exact (((Only.refl _ w).alloc _).alloc _).alloc _
  have hz1 : w1.heap.size = w.heap.size + 3 := by rw [hw1]; simp
  have hq : w1.heap[w.heap.size + 1]? = some (.cells (zs k) 68 (0, 0)) := by
    rw [hw1, Below.heap_alloc _ _ _ (by simp)]
    exact heap_alloc_new' _ _ _ (by simp)
  have hs : w1.heap[w.heap.size + 2]? = some (.cells #[.int .u64 (b.length : Int), .slice (some ⟨w.heap.size + 1, 0, none⟩) k k] 66 (0, 0)) := by
    rw [hw1]; exact heap_alloc_new' _ _ _ (by simp)
  obtain ⟨c0', c1', f0', f1'⟩ := (H.out.keep hO1 (fun _ _ => id)).cells
  rw [HBB.out, HMK.out] at c1'
  have s1 : w1.cell? ⟨w.heap.size + 2, 1, none⟩ = some (.slice (some ⟨w.heap.size + 1, 0, none⟩) k k) := block_cell hs rfl
  have HRd := Lib.hid (hrd.keep hO1 (fun _ _ => id))
  have HQ := Lib.hid hq
  have HS := Lib.hid hs
  have HO1 := Lib.hid hO1
  have HZ1 := Lib.hid hz1
  clear hw1 hq hs hO1 hrd c0 c1 hz1
  go_wp2_with fail
  refine wp_region_still_tail 8 (by kernel_rfl) (by kernel_rfl) ?_
  simp only [List.take_succ_cons, List.take_zero, List.drop_succ_cons, List.drop_zero]
  repeat still_step
  refine wpStill_nil ?_
  go_wp2_with (refine wpList_copy k rfl _ _ _ _ rfl slWord rfl HQ.out rfl HRd.out.drew (by omega) (by rw [zs_size]; omega) ?_)
  intro w2 hb2 hO2
  have HF : Hid (FObj w b (.returned (.pointer (some ⟨w.heap.size + 2, 0, none⟩))) w2) := Lib.hid (by
    have hl := H.out.len
    have e1 : (U o.ws).take k = U o.ws := List.take_of_length_le (by rw [U_len, hl, HMK.out]; omega)
    have e2 : (zs k).toList.drop k = [] := List.drop_of_length_le (by rw [zs_list, U_len, List.length_replicate]; omega)
    have hb3 : w2.heap[w.heap.size + 1]? = some (.cells (U o.ws).toArray 68 (0, 0)) := by
      simpa [e1, e2] using hb2
    have hO3 : Only (fun j => j = w.heap.size + 1) w1 w2 := hO2.undrew
    have hs2 := hO3.obj HS.out (by omega)
    refine ⟨⟨w.heap.size + 2, b.length, some ⟨w.heap.size + 1, 0, none⟩, k, k, o.ws⟩, rfl, ⟨hs2, ?_, by rw [hl]; exact HMK.out, H.out.fits, fun e => by simp [At] at e, by simp⟩, ⟨rfl, by have := HR.out.room; rw [HMK.out] at this; exact this, HR.out.bits⟩, HK.out.symm, Only.trans HO1.out hO3 (fun j hj e => by omega), fun j hj => ?_⟩
    · have h2 := Own.of_block (size := 1) hb3 k k (Nat.le_refl _) (by unfold maxLen; omega) (by simp [U_len, hl, HMK.out]) (fun u hu => U_one _ u (List.mem_of_mem_take hu))
      have e3 : (U o.ws).toArray.toList.take (k * 1) = U o.ws := by rw [Nat.mul_one]; exact e1
      rw [e3] at h2
      exact h2
    · rcases hj with rfl | hj
      · show w.heap.size ≤ w.heap.size + 2; omega
      · have : w.heap.size + 1 = j := hj; omega)
  clear hb2 hO2
  go_wp2_with fail
  go_ret
  exact HF.out

set_option maxHeartbeats 800000 in
theorem sortByLength (o o2 : O) (w : World) (h : o.ok w) (h2 : o2.ok w) :
    Calls Try.prog 79 #[o.ptr, o2.ptr] w fun e w' => e = .returned (.tuple (if o.n ≤ o2.n then #[o.ptr, o2.ptr] else #[o2.ptr, o.ptr])) ∧ ∃ m, w' = w.drewN m := by
  obtain ⟨c0, c1, f0, f1⟩ := h.cells
  obtain ⟨d0, d1, g0, g1⟩ := h2.cells
  clear h h2
  unfold O.ptr
  by_cases hle : o.n ≤ o2.n
  · have hle' : (o.n : Int) ≤ (o2.n : Int) := by omega
    rw [if_pos hle]
    go_enter Try.func79, Try.ntmps79
    go_wp2
    go_quiet (fail)
    go_wp2
    go_ret2
    exact ⟨rfl, _, rfl⟩
  · have hle' : ¬ (o.n : Int) ≤ (o2.n : Int) := by omega
    rw [if_neg hle]
    go_enter Try.func79, Try.ntmps79
    go_wp2
    go_quiet (fail)
    go_wp2
    go_ret2
    exact ⟨rfl, _, rfl⟩

theorem notNil2 (p : Nat) (w : World) : Calls Try.prog 74 #[.pointer (some ⟨p, 0, none⟩)] w fun e w' => e = .returned (.tuple #[]) ∧ w = w' := (notNil p w).mono fun e w' ⟨h, hw⟩ => ⟨h, hw.symm⟩

/-- word by word: the first k words have been worked on -/
def Worked (f : Bool → Bool → Bool) (sw lw ws : List Nat) (k : Nat) : Prop := ∀ j, bit ws j = if j < 64 * k then f (bit sw j) (bit lw j) else bit lw j
theorem Worked.step {f : Bool → Bool → Bool} {sw lw ws : List Nat} {k X : Nat} (h : Worked f sw lw ws k) (hk : k < ws.length) (hX : ∀ c, c < 64 → X.testBit c = f ((sw.getD k 0).testBit c) ((lw.getD k 0).testBit c)) : Worked f sw lw (ws.set k X) (k + 1) := by
  intro j
  rw [bit_set _ _ _ _ hk]
  by_cases hj : j / 64 = k
  · rw [if_pos hj, hX _ (Nat.mod_lt _ (by omega)), if_pos (by omega)]
    unfold bit
    rw [hj]
  · rw [if_neg hj, h j]
    by_cases c : j < 64 * k
    · rw [if_pos c, if_pos (by omega)]
    · rw [if_neg c, if_neg (by omega)]

/-- a fresh bitset, worked on to the end -/
theorem Worked.rep {f : Bool → Bool → Bool} {sw lw ws : List Nat} {k n : Nat} {bs bl : List Bool} {o : O} (h : Worked f sw lw ws k) (hf0 : f false false = false) (hfl : ∀ x, ¬ f false x = x → False) (h1 : ∀ j, bit sw j = bs.getD j false) (h2 : ∀ j, bit lw j = bl.getD j false)
    (hk : bs.length ≤ 64 * k) (hn : bs.length ≤ n ∧ bl.length ≤ n) (hon : o.n = n) (hom : n ≤ 64 * o.m) : (o.having ws).rep (twoL f bs bl n) := by
  refine ⟨by rw [twoL_len]; exact hon, by rw [twoL_len]; exact hom, fun j => ?_⟩
  show bit ws j = _
  rw [twoL_far f hf0 _ _ _ _ hn, h j, h1, h2]
  by_cases c : j < 64 * k
  · rw [if_pos c]
  · rw [if_neg c]
    have : bs.getD j false = false := by simp [show bs.length ≤ j by omega]
    rw [this]
    exact (Classical.byContradiction (fun e => hfl _ (fun e' => e e'.symm)))
/-- a fresh bitset with other words -/
theorem fresh_fin {o : O} {b0 d : List Bool} {ws : List Nat} {w w1 wr : World} (hok : (o.having ws).ok wr) (hrep : (o.having ws).rep d) (hm : o.m = (d.length + 63) / 64) (hO1 : Same w w1) (hO : Only o.foot w1 wr) (hf : ∀ k, o.foot k → w.heap.size ≤ k) : FObj w d (.returned o.ptr) wr :=
  ⟨o.having ws, rfl, hok, hrep, hm, Only.trans hO1 hO (fun k hk hh => absurd (hf k hh) (by omega)), hf⟩

set_option maxRecDepth 100000 in
set_option maxHeartbeats 3200000 in
theorem union_core (p1 p2 : Nat) (s l : O) (bs bl : List Bool) (w : World) (h1 : s.ok w) (h2 : l.ok w) (r1 : s.rep bs) (r2 : l.rep bl) (hle : bs.length ≤ bl.length) (ts : s.tight bs) (tl : l.tight bl) (hn : bl.length ≤ 1048000)
    (hs : Calls Try.prog 79 #[.pointer (some ⟨p1, 0, none⟩), .pointer (some ⟨p2, 0, none⟩)] w fun e w' => e = .returned (.tuple #[s.ptr, l.ptr]) ∧ ∃ m, w' = w.drewN m) :
    Calls Try.prog 61 #[.pointer (some ⟨p1, 0, none⟩), .pointer (some ⟨p2, 0, none⟩)] w (FObj w (twoL (fun x y => x || y) bs bl bl.length)) := by
  have HS := Lib.hid hs
  have HCL := Lib.hid (fun m => clone l bl (w.drewN m) (h2.of_heap rfl) r2 tl hn)
  have H1 := Lib.hid h1
  have H2 := Lib.hid h2
  have R1 := Lib.hid r1
  have R2 := Lib.hid r2
  have hsm : s.m ≤ l.m := by rw [ts, tl]; omega
  have HTL := Lib.hid tl
  have HTS := Lib.hid ts
  clear hs h1 h2 r1 r2 ts tl
  unfold O.ptr at *
  go_enter Try.func61, Try.ntmps61
  go_wp2_with (go_at_call 74; (with_reducible refine (notNil2 _ _).mono ?_); rintro e w1 ⟨rfl, rfl⟩)
  refine HS.out.mono ?_
  rintro e w2 ⟨rfl, m, rfl⟩
  go_wp2_with fail
  refine (HCL.out m).mono ?_
  rintro e w3 ⟨o, rfl, hok, hrep, hm, hO, hf⟩
  unfold O.ptr
  have hO1 : Same w w3 := Only.trans ((Only.refl (fun _ => False) w).drewN m) hO (fun _ _ f => f)
  have hfr : ∀ k, o.foot k → w.heap.size ≤ k := fun k hk => by have := hf k hk; simpa using this
  obtain ⟨sb, hsb, -⟩ := H1.out.facts
  obtain ⟨lb, hlb, -⟩ := H2.out.facts
  obtain ⟨ob, hob, -⟩ := hok.facts
  have HSB := Lib.hid hsb
  have HLB := Lib.hid hlb
  have HOB := Lib.hid hob
  have HO1 := Lib.hid hO1
  have HFR := Lib.hid hfr
  have HOK : Hid ((o.having o.ws).ok w3) := Lib.hid hok
  have HREP := Lib.hid hrep
  have HON := Lib.hid hrep.len
  have hom : l.m ≤ o.m := by rw [hm]; exact Nat.le_of_eq HTL.out
  have HOM := Lib.hid hm
  obtain ⟨a0, a1, -⟩ := having_facts (o := s) (ws := s.ws) (H1.out.keep hO1 (fun _ _ => id)) hsb
  clear hsb hlb hob hO1 hfr hok hrep hm hO hf
  have hsl : s.m ≤ 20000 := by have h1 := HTS.out; unfold O.tight at h1; omega
  go_wp2_with fail
  go_loopw [5, 6, 24] (fun _ _ i wr => ∃ (k : Nat) (ws : List Nat), k ≤ s.m ∧ i = .int .i64 (k : Int) ∧ Hid ((o.having ws).ok wr ∧ Worked (fun x y => x || y) s.ws l.ws ws k ∧ Only o.foot w3 wr)) (fun _ _ i _ => s.m - (intOf i).toNat)
  case atStart => exact ⟨0, o.ws, Nat.zero_le _, rfl, Lib.hid ⟨HOK.out, fun j => by rw [if_neg (by omega), HREP.out.bits, R2.out.bits], Only.refl _ _⟩⟩
  case round =>
    obtain ⟨k, ws, hk, rfl, hrel⟩ := hrel
    clear a0 a1
    have HSW : Hid (Same w wr) := Lib.hid (Only.trans HO1.out hrel.out.2.2 (fun j hj hh => absurd (HFR.out j hh) (by omega)))
    have HL2 := Lib.hid (having_len hrel.out.1)
    by_cases hlt : k < s.m
    · have hlt' : (k : Int) < (s.m : Int) := by omega
      obtain ⟨a0, a1, af0, af1, acs, afr, ap, abl, ane⟩ := having_facts (o := s) (ws := s.ws) (H1.out.keep HSW.out (fun _ _ => id)) HSB.out
      obtain ⟨b0, b1, bf0, bf1, bcs, bfr, bp, bbl, bne⟩ := having_facts (o := l) (ws := l.ws) (H2.out.keep HSW.out (fun _ _ => id)) HLB.out
      obtain ⟨c0, c1, cf0, cf1, ccs, cfr, cp, cbl, cne⟩ := having_facts hrel.out.1 HOB.out
      have ak := acs k hlt
      have bk := bcs k (by omega)
      have ck := ccs k (by omega)
      have fk := cfr k
      have hkl : (k : Int) < (l.m : Int) := by omega
      have hko : (k : Int) < (o.m : Int) := by omega
      have HWa : Hid (Lt64 (s.ws.getD k 0)) := Lib.hid (H1.out.fits.at k)
      have HWb : Hid (Lt64 (l.ws.getD k 0)) := Lib.hid (H2.out.fits.at k)
      have HST : Hid (∀ x y : Nat, x = s.ws.getD k 0 → y = l.ws.getD k 0 → (o.having (ws.set k (x ||| y))).ok (wr.setCell ⟨ob, k, none⟩ (.int .u64 ((x ||| y : Nat) : Int))).drew ∧ Worked (fun x y => x || y) s.ws l.ws (ws.set k (x ||| y)) (k + 1) ∧ Only o.foot w3 (wr.setCell ⟨ob, k, none⟩ (.int .u64 ((x ||| y : Nat) : Int))).drew) := Lib.hid (fun x y hx hy => by
        subst hx hy
        exact ⟨(having_store hrel.out.1 HOB.out (by omega) (lt64_or HWa.out HWb.out)).of_heap rfl, hrel.out.2.1.step (by rw [HL2.out]; omega) (fun c _ => Nat.testBit_or _ _ _), (hrel.out.2.2.setCell _ _ (fun _ => .inr (by rw [HOB.out]; rfl))).drew⟩)
      clear acs afr bcs bfr ccs cfr
      generalize s.ws.getD k 0 = x at *
      generalize l.ws.getD k 0 = y at *
      have e1 : bits .or .u64 (x : Int) (y : Int) = ((x ||| y : Nat) : Int) := or_nat HWa.out HWb.out
      have HN := Lib.hid (HST.out x y rfl rfl)
      generalize x ||| y = X at *
      generalize ws.getD k 0 = z at *
      clear HST
      go_wp2
      refine wp_region_still_tail 15 (by kernel_rfl) (by kernel_rfl) ?_
      simp only [List.take_succ_cons, List.take_zero, List.drop_succ_cons, List.drop_zero]
      repeat still_step
      refine wpStill_nil ?_
      go_wp2
      go_roundw
      case rel => exact ⟨k + 1, _, by omega, by go_num, Lib.hid HN.out⟩
      case measure => simp [intOf]; omega
    · obtain rfl : k = s.m := by omega
      have hge : ¬ (s.m : Int) < (s.m : Int) := by omega
      have HF : Hid (FObj w (twoL (fun x y => x || y) bs bl bl.length) (.returned (.pointer (some ⟨o.p, 0, none⟩))) wr) := Lib.hid (fresh_fin (b0 := bl) hrel.out.1 (Worked.rep hrel.out.2.1 rfl (fun x e => e (by simp)) R1.out.bits R2.out.bits R1.out.room ⟨hle, Nat.le_refl _⟩ HON.out (by have := HREP.out.room; exact this)) (by rw [twoL_len]; exact HOM.out) HO1.out hrel.out.2.2 HFR.out)
      go_wp2
      go_ret
      exact HF.out
end Go.Proofs.Ythnfoiaemeklnaa.bs

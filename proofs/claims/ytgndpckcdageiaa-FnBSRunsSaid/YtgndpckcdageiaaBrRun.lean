/-
  impl.BSRun: the walk.
-/
import Derived.Test.YtgndpckcdageiaaBrOne
import Derived.Test.YtgndpckcdageiaaBrRun0
import Derived.Test.YtgndpckcdageiaaBsSet64
import Derived.BigRegion
import Derived.BigQuiet
import Derived.Deep.CutBlock
import Derived.Deep.RegionHeld3
namespace Go.Proofs.Ytgndpckcdageiaa.bs
open Go.RowKit Go.Proofs.Ytgndpckcdageiaa.base Go.Proofs.Ytgndpckcdageiaa.heap Go.Proofs.Ytgndpckcdageiaa.bit
open Go.Proofs.Ytgndpckcdageiaa.rows (RS OS flat_snoc flat_one flat_len)
set_option linter.unusedVariables false
theorem slPtr : SliceOf Try.prog 47 45 1 8 := SliceOf.mk (z := .pointer none) Try.underlying47 (by kernel_rfl) rfl
theorem slBits : SliceOf Try.prog 32 25 2 32 := SliceOf.mk (z := .agg #[.int .u64 0, .slice none 0 0]) Try.underlying32 (by kernel_rfl) rfl
def RunB (ys : List (List Bool)) (w : World) (e : Ending) (w' : World) : Prop :=
  ∃ oa oc As, e = .returned (.slice oa ys.length oc) ∧ RS bc 2 w' oa ys.length oc As ∧ As.map (·.b) = ys ∧ (∀ x ∈ As, RU w' x.a x.m x.cap (ones x.b)) ∧ Same w w'
def OpP (o : O) (b' : List Bool) (w : World) (e : Ending) (w' : World) : Prop := (∃ v, e = .returned v) ∧ Upd o b' w w'
/-- behind the switch of a round -/
def Mid (w wx : World) (s' : List (List Bool)) (nb : List Bool) (oa : Option Addr) (k oc : Nat) (As : List Bt) (s5 s9 : Value) : Prop :=
  ∃ (l' : List O) (pa' : Option Addr) (pc' : Nat) (o' : O), s5 = .slice pa' l'.length pc' ∧ s9 = o'.ptr ∧ Hid (BInv w wx l' s' pa' pc' oa k oc As ∧ o'.ok wx ∧ o'.rep nb)
set_option maxRecDepth 100000 in
set_option maxHeartbeats 6400000 in
theorem bsRun (v : Value) (b : List Bool) (T : List BSt) (ta : Option Addr) (tn tc : Nat) (w : World) (h : BV w v b) (hT : RS stc 5 w ta tn tc T) (hok : OkTs [b] T) (hb : b.length ≤ 600) (hn : tn ≤ 30) :
    Calls Try.prog 10 #[v, .slice ta tn tc] w (RunB (tolds [b] T) w) := by
  obtain ⟨fa, fm, fc, rfl, hf⟩ := h
  have HT := Lib.hid hT
  have HOK := Lib.hid hok
  have hbd := hT.bound
  have HS64 : Hid (∀ wx, Same w wx → Calls Try.prog 16 #[.agg #[.int .u64 (b.length : Int), .slice fa fm fc]] wx fun e w' => ∃ o : O, e = .returned o.ptr ∧ o.ok w' ∧ o.rep b ∧ o.m = (b.length + 63) / 64 ∧ Only (fun _ => False) wx w' ∧ ∀ k, o.foot k → wx.heap.size ≤ k) := Lib.hid (fun wx hS => set64 _ b wx ⟨fa, fm, fc, rfl, hf.keep hS (fun _ _ => id)⟩ (by omega))
  have HLEN : Hid ((tolds [b] T).length = tn) := Lib.hid (by rw [tolds_len, hT.2])
  have HSH : Hid (∀ j, j ≤ tn → Short 700 (afters [b] (T.take j)) ∧ (afters [b] (T.take j)).length ≤ 1 + j) := Lib.hid (fun j hj => by
    have h1 := afters_at hok (n := 600) (fun x hx => by rw [List.mem_singleton] at hx; subst hx; omega) (Nat.le_refl _) j (by rw [hT.2]; exact hj)
    exact ⟨fun x hx => by have := h1.1 x hx; omega, by simpa [Nat.add_comm] using h1.2⟩)
  clear hf hT hok
  go_enter Try.func10, Try.ntmps10
  go_wp2_with (go_at_call 16; refine (HS64.out _ ?_).mono ?_)
  · exact (Only.refl _ _).alloc _
  rintro e w1 ⟨o, rfl, hok1, hrep1, _, hS1, hfr1⟩
  have HB0 : Hid (∀ w2, w2 = w1.alloc (.cells #[o.ptr] 45) → BInv w w2 [o] [b] (some ⟨w1.heap.size, 0, none⟩) 1 none 0 0 []) := Lib.hid (by
    rintro w2 rfl
    have hSA : Same w1 (w1.alloc (.cells #[o.ptr] 45)) := (Only.refl _ _).alloc _
    have hS0 : Same w w1 := Only.trans ((Only.refl (fun _ => False) w).alloc _) hS1 (fun _ _ f => f)
    have hfo : ∀ j, FoL [o] j → o.foot j := fun j hj => by
      obtain ⟨x, hx, hk⟩ := hj
      rw [List.mem_singleton] at hx
      subst hx; exact hk
    have hge : ∀ j, o.foot j → w.heap.size ≤ j := fun j hj => by have := hfr1 j hj; simp at this; omega
    refine ⟨⟨rfl, fun i x c h1 h2 => ?_, fun i j x x' hij h1 h2 => ?_⟩, ?_, ⟨Own.nil _ _ _, rfl⟩, fun x hx => (by cases hx), fun j hj => ?_, fun j hj => ⟨fun hp => ?_, id⟩, fun j _ => id, Only.trans hS0 hSA (fun _ _ f => f)⟩
    · cases i with
      | zero => cases h1; cases h2; exact ⟨hok1.keep hSA (fun _ _ => id), hrep1⟩
      | succ i => cases h1
    · cases i with
      | zero => cases j with
        | zero => exact absurd rfl hij
        | succ j => cases h2
      | succ i => cases h1
    · exact Own.of_block (e := 45) (size := 1) (heap_alloc_new _ _) 1 1 (Nat.le_refl _) (by simp [maxLen]) rfl (by intro u hu; exact ptr_one [o] u (List.mem_of_mem_take hu))
    · rcases hj with hj | hj | hj
      · exact hge j (hfo j hj)
      · have : w1.heap.size = j := hj
        have := hS0.size; omega
      · exact hj.elim
    · have e1 : w1.heap.size = j := hp
      have := hok1.lt j (hfo j hj); omega)
  clear hok1 hrep1 hS1 hfr1 HS64
  unfold O.ptr at HB0 ⊢
  go_wp2_with fail
  go_loopw [5, 6, 16] (fun s5 s6 i wr => ∃ (j nl : Nat) (l : List O) (pa oa : Option Addr) (pc oc : Nat) (As : List Bt), j ≤ tn ∧ i = .int .i64 (j : Int) ∧ s5 = .slice pa nl pc ∧ s6 = .slice oa j oc ∧ Hid (l.length = nl ∧ BInv w wr l (afters [b] (T.take j)) pa pc oa j oc As ∧ As.map (·.b) = tolds [b] (T.take j))) (fun _ _ i _ => tn - (intOf i).toNat)
  case atStart => exact ⟨0, 1, [o], _, none, 1, 0, [], Nat.zero_le _, rfl, rfl, rfl, Lib.hid ⟨rfl, HB0.out _ rfl, rfl⟩⟩
  case round =>
    clear HB0
    obtain ⟨j, nl, l, pa, oa, pc, oc, As, hj, rfl, rfl, rfl, HI⟩ := hrel
    by_cases hlt : j < tn
    · have hlt' : (j : Int) < (tn : Int) := by omega
      have hj0 : (0 : Int) ≤ (j : Int) := by omega
      obtain ⟨t, ht⟩ := HT.out.get hlt
      have hoks := HOK.out.at ht
      have hsh := HSH.out j hj
      obtain ⟨sb, so, hsa, hsb, hsc⟩ := (HT.out.still HI.out.2.1.same).at stc_len (by omega)
      have HTK : Hid (T.take (j + 1) = T.take j ++ [t]) := Lib.hid (by rw [List.take_add_one, ht]; rfl)
      obtain ⟨s, hs⟩ : ∃ s, afters [b] (T.take j) = s := ⟨_, rfl⟩
      rw [hs] at hoks hsh HI
      have s0 := hsc j t ht 0 _ rfl
      have s1 := hsc j t ht 1 _ rfl
      have s2 := hsc j t ht 2 _ rfl
      have s3 := hsc j t ht 3 _ rfl
      have s4 := hsc j t ht 4 _ rfl
      obtain ⟨op, hop⟩ : ∃ x, t.op = x := ⟨_, rfl⟩
      obtain ⟨on, hon⟩ : ∃ x, t.on = x := ⟨_, rfl⟩
      obtain ⟨by_, hby⟩ : ∃ x, t.by_ = x := ⟨_, rfl⟩
      obtain ⟨A, hAe⟩ : ∃ x, t.a = x := ⟨_, rfl⟩
      obtain ⟨B, hBe⟩ : ∃ x, t.b = x := ⟨_, rfl⟩
      obtain ⟨bx, hbx⟩ : ∃ x, s.getD on [] = x := ⟨_, rfl⟩
      obtain ⟨by0, hby0⟩ : ∃ x, s.getD by_ [] = x := ⟨_, rfl⟩
      have hol := hoks.on
      have hbl := hoks.by_
      rw [hon] at hol
      rw [hby] at hbl
      have hsx : s[on]? = some bx := by rw [← hbx, List.getD_eq_getElem?_getD, List.getElem?_eq_getElem hol]; rfl
      have hsy : s[by_]? = some by0 := by rw [← hby0, List.getD_eq_getElem?_getD, List.getElem?_eq_getElem hbl]; rfl
      have hlx := hsh.1 bx (List.mem_of_getElem? hsx)
      have hly := hsh.1 by0 (List.mem_of_getElem? hsy)
      obtain ⟨ox, hox, hokx, hrx⟩ := HI.out.2.1.mem.get hsx
      obtain ⟨oy, hoy, hoky, hry⟩ := HI.out.2.1.mem.get hsy
      have HTO : Hid (t.op = op ∧ s.getD t.on [] = bx ∧ s.getD t.by_ [] = by0 ∧ t.a = A ∧ t.b = B ∧ t.on = on ∧ True) := Lib.hid ⟨hop, by rw [hon]; exact hbx, by rw [hby]; exact hby0, hAe, hBe, hon, trivial⟩
      have HPL : Hid (op = 8 ∨ op = 9 ∨ op = 10 → A < bx.length) := Lib.hid (fun h => by have := hoks.place (by rw [hop]; exact h); rw [hAe, hon, hbx] at this; exact this)
      have hopk := hoks.op
      have hA := hoks.a
      have hB := hoks.b
      rw [hop] at hopk
      rw [hAe] at hA
      rw [hBe] at hB
      rw [hop] at s0
      rw [hon] at s1
      rw [hby] at s2
      rw [hAe] at s3
      rw [hBe] at s4
      have s0' : wr.cell? ⟨sb, so + j * 5, none⟩ = some (.int .i64 (op : Int)) := s0
      have HDI : Hid ((ox = oy ∧ bx = by0) ∨ ∀ i, ox.foot i → ¬ oy.foot i) := Lib.hid (by
        by_cases e : on = by_
        · subst e
          rw [hox] at hoy; rw [hsx] at hsy
          cases hoy; cases hsy
          exact .inl ⟨rfl, rfl⟩
        · exact .inr (HI.out.2.1.mem.apart on by_ ox oy e hox hoy))
      have HXY : Hid (l[on]? = some ox ∧ ox.ok wr ∧ ox.rep bx ∧ l[by_]? = some oy ∧ oy.ok wr ∧ oy.rep by0) := Lib.hid ⟨hox, hokx, hrx, hoy, hoky, hry⟩
      have hl31 : l.length ≤ 1000 := by rw [HI.out.2.1.mem.len]; have := hsh.2; omega
      have HS := Lib.hid hs
      subst hsa
      clear hsc s0 hop hon hby hAe hBe hbx hby0 hoks hsh hsx hsy hox hokx hrx hoy hoky hry ht hs hol hbl
      go_wp2_with fail
      obtain ⟨W1, hW1⟩ : ∃ W1, wr.alloc (.cells #[.int .i64 (op : Int), .int .i64 (on : Int), .int .i64 (by_ : Int), .int .u64 (A : Int), .int .u64 (B : Int)] 35) = W1 := ⟨_, rfl⟩
      obtain ⟨g, hg⟩ : ∃ g, wr.heap.size = g := ⟨_, rfl⟩
      have HW1 : Hid (Same wr W1 ∧ W1.heap[g]? = some (.cells #[.int .i64 (op : Int), .int .i64 (on : Int), .int .i64 (by_ : Int), .int .u64 (A : Int), .int .u64 (B : Int)] 35 (0, 0))) := Lib.hid (by
        rw [← hW1, ← hg]
        exact ⟨(Only.refl _ _).alloc _, heap_alloc_new _ _⟩)
      rw [hW1, hg]
      have c0 : W1.cell? ⟨g, 0, none⟩ = some (.int .i64 (op : Int)) := block_cell HW1.out.2 rfl
      have c1 : W1.cell? ⟨g, 1, none⟩ = some (.int .i64 (on : Int)) := block_cell HW1.out.2 rfl
      have c2 : W1.cell? ⟨g, 2, none⟩ = some (.int .i64 (by_ : Int)) := block_cell HW1.out.2 rfl
      have HONE : Hid (∀ (i : Nat) (oo : O), l[i]? = some oo → ∀ r, Calls Try.prog 17 #[.slice pa nl pc, .int .i64 (i : Int)] (W1.drewN r) (fun e w' => e = .returned (.pointer (some ⟨oo.p, 0, none⟩)) ∧ ∃ m, w' = (W1.drewN r).drewN m)) := Lib.hid (fun i oo hi r => by
        have h1 := one_q ((HI.out.2.1.row.keep HW1.out.1 (fun _ _ => id)).drewN r) hi hl31
        rw [HI.out.1] at h1
        exact h1)
      have HONX : Hid (∀ r, Calls Try.prog 17 #[.slice pa nl pc, .int .i64 (on : Int)] (W1.drewN r) (fun e w' => e = .returned (.pointer (some ⟨ox.p, 0, none⟩)) ∧ ∃ m, w' = (W1.drewN r).drewN m)) := Lib.hid (HONE.out on ox HXY.out.1)
      have HONY : Hid (∀ r, Calls Try.prog 17 #[.slice pa nl pc, .int .i64 (by_ : Int)] (W1.drewN r) (fun e w' => e = .returned (.pointer (some ⟨oy.p, 0, none⟩)) ∧ ∃ m, w' = (W1.drewN r).drewN m)) := Lib.hid (HONE.out by_ oy HXY.out.2.2.2.1)
      clear hW1 hg HONE s0' s1 s2 s3 s4
      go_quiet (first | (go_at_call 17; with_reducible exact Calls.quiet_of (HONX.out _)) | (go_at_call 17; with_reducible exact Calls.quiet_of (HONY.out _)))
      obtain ⟨W2, hW2⟩ : ∃ W2, W1.drewN nq = W2 := ⟨_, rfl⟩
      have HW2 : Hid (Same wr W2 ∧ W2.heap[g]? = some (.cells #[.int .i64 (op : Int), .int .i64 (on : Int), .int .i64 (by_ : Int), .int .u64 (A : Int), .int .u64 (B : Int)] 35 (0, 0))) := Lib.hid (by
        rw [← hW2]
        exact ⟨HW1.out.1.drewN _, HW1.out.2⟩)
      rw [hW2]
      have d0 : W2.cell? ⟨g, 0, none⟩ = some (.int .i64 (op : Int)) := block_cell HW2.out.2 rfl
      have d3 : W2.cell? ⟨g, 3, none⟩ = some (.int .u64 (A : Int)) := block_cell HW2.out.2 rfl
      have d4 : W2.cell? ⟨g, 4, none⟩ = some (.int .u64 (B : Int)) := block_cell HW2.out.2 rfl
      have HI2 : Hid (l.length = nl ∧ BInv w W2 l s pa pc oa j oc As) := Lib.hid ⟨HI.out.1, HI.out.2.1.still HW2.out.1⟩
      have HXO : Hid (ox.ok W2 ∧ ox.rep bx ∧ l[on]? = some ox) := Lib.hid ⟨HXY.out.2.1.keep HW2.out.1 (fun _ _ => id), HXY.out.2.2.1, HXY.out.1⟩
      have HYO : Hid (oy.ok W2 ∧ oy.rep by0) := Lib.hid ⟨HXY.out.2.2.2.2.1.keep HW2.out.1 (fun _ _ => id), HXY.out.2.2.2.2.2⟩
      have hnl : nl ≤ 1000 := by rw [← HI.out.1]; exact hl31
      clear hW2 c0 c1 c2 HW1 HXY HONX HONY hl31
      go_upto_block 2 with fail
      clear d0
      go_cut [5, 9, 29] (fun s5 s9 _ wx => Mid w wx (after s t) (told s t) oa j oc As s5 s9)
      case first =>
        unfold OpK at hopk
        rcases hopk with rfl | rfl | rfl | rfl | rfl | rfl | rfl | rfl | rfl | rfl | rfl | rfl | rfl | rfl | rfl
        · have HK : Hid (Calls Try.prog 18 #[.pointer (some ⟨ox.p, 0, none⟩), .int .u64 (A : Int)] W2 (OpP ox (nextL 1 bx [] A B) W2)) := Lib.hid (k_set ox bx W2 HXO.out.1 HXO.out.2.1 (by omega) A B hA)
          have HAF : Hid (after s t = s.set on (nextL 1 bx [] A B) ∧ told s t = nextL 1 bx [] A B) := Lib.hid (by
            have e1 : told s t = nextL 1 bx [] A B := by unfold told; rw [HTO.out.1, HTO.out.2.1, HTO.out.2.2.1, HTO.out.2.2.2.1, HTO.out.2.2.2.2.1]; rfl
            refine ⟨?_, e1⟩
            unfold after; rw [HTO.out.1, if_neg (by decide), e1, HTO.out.2.2.2.2.2.1])
          go_wp2_with (go_at_call 18; refine HK.out.mono ?_)
          rintro e w3 ⟨⟨v, rfl⟩, hu⟩
          obtain ⟨l', o', h1, h2, h3, h4, h5, h6⟩ := HI2.out.2.op HXO.out.2.2 hu
          have HN : Hid (BInv w w3 l' (after s t) pa pc oa j oc As ∧ o'.ok w3 ∧ o'.rep (told s t) ∧ l'.length = nl ∧ o'.ptr = ox.ptr) := Lib.hid ⟨by rw [HAF.out.1]; exact h6, h4, by rw [HAF.out.2]; exact h5, by rw [h3]; exact HI2.out.1, h2⟩
          clear h1 h2 h3 h4 h5 h6 hu HK
          go_wp2_with fail
          go_meet
          exact ⟨l', pa, pc, o', by rw [HN.out.2.2.2.1], HN.out.2.2.2.2.symm, Lib.hid ⟨HN.out.1, HN.out.2.1, HN.out.2.2.1⟩⟩
        · have HK : Hid (Calls Try.prog 19 #[.pointer (some ⟨ox.p, 0, none⟩), .int .u64 (A : Int)] W2 (OpP ox (nextL 2 bx [] A B) W2)) := Lib.hid (k_clear ox bx W2 HXO.out.1 HXO.out.2.1 (by omega) A B hA)
          have HAF : Hid (after s t = s.set on (nextL 2 bx [] A B) ∧ told s t = nextL 2 bx [] A B) := Lib.hid (by
            have e1 : told s t = nextL 2 bx [] A B := by unfold told; rw [HTO.out.1, HTO.out.2.1, HTO.out.2.2.1, HTO.out.2.2.2.1, HTO.out.2.2.2.2.1]; rfl
            refine ⟨?_, e1⟩
            unfold after; rw [HTO.out.1, if_neg (by decide), e1, HTO.out.2.2.2.2.2.1])
          go_wp2_with (go_at_call 19; refine HK.out.mono ?_)
          rintro e w3 ⟨⟨v, rfl⟩, hu⟩
          obtain ⟨l', o', h1, h2, h3, h4, h5, h6⟩ := HI2.out.2.op HXO.out.2.2 hu
          have HN : Hid (BInv w w3 l' (after s t) pa pc oa j oc As ∧ o'.ok w3 ∧ o'.rep (told s t) ∧ l'.length = nl ∧ o'.ptr = ox.ptr) := Lib.hid ⟨by rw [HAF.out.1]; exact h6, h4, by rw [HAF.out.2]; exact h5, by rw [h3]; exact HI2.out.1, h2⟩
          clear h1 h2 h3 h4 h5 h6 hu HK
          go_wp2_with fail
          go_meet
          exact ⟨l', pa, pc, o', by rw [HN.out.2.2.2.1], HN.out.2.2.2.2.symm, Lib.hid ⟨HN.out.1, HN.out.2.1, HN.out.2.2.1⟩⟩
        · have HK : Hid (Calls Try.prog 20 #[.pointer (some ⟨ox.p, 0, none⟩), .int .u64 (A : Int)] W2 (OpP ox (nextL 3 bx [] A B) W2)) := Lib.hid (k_flip ox bx W2 HXO.out.1 HXO.out.2.1 (by omega) A B hA)
          have HAF : Hid (after s t = s.set on (nextL 3 bx [] A B) ∧ told s t = nextL 3 bx [] A B) := Lib.hid (by
            have e1 : told s t = nextL 3 bx [] A B := by unfold told; rw [HTO.out.1, HTO.out.2.1, HTO.out.2.2.1, HTO.out.2.2.2.1, HTO.out.2.2.2.2.1]; rfl
            refine ⟨?_, e1⟩
            unfold after; rw [HTO.out.1, if_neg (by decide), e1, HTO.out.2.2.2.2.2.1])
          go_wp2_with (go_at_call 20; refine HK.out.mono ?_)
          rintro e w3 ⟨⟨v, rfl⟩, hu⟩
          obtain ⟨l', o', h1, h2, h3, h4, h5, h6⟩ := HI2.out.2.op HXO.out.2.2 hu
          have HN : Hid (BInv w w3 l' (after s t) pa pc oa j oc As ∧ o'.ok w3 ∧ o'.rep (told s t) ∧ l'.length = nl ∧ o'.ptr = ox.ptr) := Lib.hid ⟨by rw [HAF.out.1]; exact h6, h4, by rw [HAF.out.2]; exact h5, by rw [h3]; exact HI2.out.1, h2⟩
          clear h1 h2 h3 h4 h5 h6 hu HK
          go_wp2_with fail
          go_meet
          exact ⟨l', pa, pc, o', by rw [HN.out.2.2.2.1], HN.out.2.2.2.2.symm, Lib.hid ⟨HN.out.1, HN.out.2.1, HN.out.2.2.1⟩⟩
        · have HK : Hid (Calls Try.prog 21 #[.pointer (some ⟨ox.p, 0, none⟩), .int .u64 (A : Int), .int .u64 (B : Int)] W2 (OpP ox (nextL 4 bx [] A B) W2)) := Lib.hid (k_setRange ox bx W2 HXO.out.1 HXO.out.2.1 (by omega) A B hB)
          have HAF : Hid (after s t = s.set on (nextL 4 bx [] A B) ∧ told s t = nextL 4 bx [] A B) := Lib.hid (by
            have e1 : told s t = nextL 4 bx [] A B := by unfold told; rw [HTO.out.1, HTO.out.2.1, HTO.out.2.2.1, HTO.out.2.2.2.1, HTO.out.2.2.2.2.1]; rfl
            refine ⟨?_, e1⟩
            unfold after; rw [HTO.out.1, if_neg (by decide), e1, HTO.out.2.2.2.2.2.1])
          go_wp2_with (go_at_call 21; refine HK.out.mono ?_)
          rintro e w3 ⟨⟨v, rfl⟩, hu⟩
          obtain ⟨l', o', h1, h2, h3, h4, h5, h6⟩ := HI2.out.2.op HXO.out.2.2 hu
          have HN : Hid (BInv w w3 l' (after s t) pa pc oa j oc As ∧ o'.ok w3 ∧ o'.rep (told s t) ∧ l'.length = nl ∧ o'.ptr = ox.ptr) := Lib.hid ⟨by rw [HAF.out.1]; exact h6, h4, by rw [HAF.out.2]; exact h5, by rw [h3]; exact HI2.out.1, h2⟩
          clear h1 h2 h3 h4 h5 h6 hu HK
          go_wp2_with fail
          go_meet
          exact ⟨l', pa, pc, o', by rw [HN.out.2.2.2.1], HN.out.2.2.2.2.symm, Lib.hid ⟨HN.out.1, HN.out.2.1, HN.out.2.2.1⟩⟩
        · have HK : Hid (Calls Try.prog 22 #[.pointer (some ⟨ox.p, 0, none⟩), .int .u64 (A : Int), .int .u64 (B : Int)] W2 (OpP ox (nextL 5 bx [] A B) W2)) := Lib.hid (k_flipRange ox bx W2 HXO.out.1 HXO.out.2.1 (by omega) A B hB)
          have HAF : Hid (after s t = s.set on (nextL 5 bx [] A B) ∧ told s t = nextL 5 bx [] A B) := Lib.hid (by
            have e1 : told s t = nextL 5 bx [] A B := by unfold told; rw [HTO.out.1, HTO.out.2.1, HTO.out.2.2.1, HTO.out.2.2.2.1, HTO.out.2.2.2.2.1]; rfl
            refine ⟨?_, e1⟩
            unfold after; rw [HTO.out.1, if_neg (by decide), e1, HTO.out.2.2.2.2.2.1])
          go_wp2_with (go_at_call 22; refine HK.out.mono ?_)
          rintro e w3 ⟨⟨v, rfl⟩, hu⟩
          obtain ⟨l', o', h1, h2, h3, h4, h5, h6⟩ := HI2.out.2.op HXO.out.2.2 hu
          have HN : Hid (BInv w w3 l' (after s t) pa pc oa j oc As ∧ o'.ok w3 ∧ o'.rep (told s t) ∧ l'.length = nl ∧ o'.ptr = ox.ptr) := Lib.hid ⟨by rw [HAF.out.1]; exact h6, h4, by rw [HAF.out.2]; exact h5, by rw [h3]; exact HI2.out.1, h2⟩
          clear h1 h2 h3 h4 h5 h6 hu HK
          go_wp2_with fail
          go_meet
          exact ⟨l', pa, pc, o', by rw [HN.out.2.2.2.1], HN.out.2.2.2.2.symm, Lib.hid ⟨HN.out.1, HN.out.2.1, HN.out.2.2.1⟩⟩
        · have HK : Hid (Calls Try.prog 23 #[.pointer (some ⟨ox.p, 0, none⟩)] W2 (OpP ox (nextL 6 bx [] A B) W2)) := Lib.hid (k_clearAll ox bx W2 HXO.out.1 HXO.out.2.1 (by omega) A B)
          have HAF : Hid (after s t = s.set on (nextL 6 bx [] A B) ∧ told s t = nextL 6 bx [] A B) := Lib.hid (by
            have e1 : told s t = nextL 6 bx [] A B := by unfold told; rw [HTO.out.1, HTO.out.2.1, HTO.out.2.2.1, HTO.out.2.2.2.1, HTO.out.2.2.2.2.1]; rfl
            refine ⟨?_, e1⟩
            unfold after; rw [HTO.out.1, if_neg (by decide), e1, HTO.out.2.2.2.2.2.1])
          go_wp2_with (go_at_call 23; refine HK.out.mono ?_)
          rintro e w3 ⟨⟨v, rfl⟩, hu⟩
          obtain ⟨l', o', h1, h2, h3, h4, h5, h6⟩ := HI2.out.2.op HXO.out.2.2 hu
          have HN : Hid (BInv w w3 l' (after s t) pa pc oa j oc As ∧ o'.ok w3 ∧ o'.rep (told s t) ∧ l'.length = nl ∧ o'.ptr = ox.ptr) := Lib.hid ⟨by rw [HAF.out.1]; exact h6, h4, by rw [HAF.out.2]; exact h5, by rw [h3]; exact HI2.out.1, h2⟩
          clear h1 h2 h3 h4 h5 h6 hu HK
          go_wp2_with fail
          go_meet
          exact ⟨l', pa, pc, o', by rw [HN.out.2.2.2.1], HN.out.2.2.2.2.symm, Lib.hid ⟨HN.out.1, HN.out.2.1, HN.out.2.2.1⟩⟩
        · have HK : Hid (Calls Try.prog 24 #[.pointer (some ⟨ox.p, 0, none⟩)] W2 (OpP ox (nextL 7 bx [] A B) W2)) := Lib.hid (k_setAll ox bx W2 HXO.out.1 HXO.out.2.1 (by omega) A B)
          have HAF : Hid (after s t = s.set on (nextL 7 bx [] A B) ∧ told s t = nextL 7 bx [] A B) := Lib.hid (by
            have e1 : told s t = nextL 7 bx [] A B := by unfold told; rw [HTO.out.1, HTO.out.2.1, HTO.out.2.2.1, HTO.out.2.2.2.1, HTO.out.2.2.2.2.1]; rfl
            refine ⟨?_, e1⟩
            unfold after; rw [HTO.out.1, if_neg (by decide), e1, HTO.out.2.2.2.2.2.1])
          go_wp2_with (go_at_call 24; refine HK.out.mono ?_)
          rintro e w3 ⟨⟨v, rfl⟩, hu⟩
          obtain ⟨l', o', h1, h2, h3, h4, h5, h6⟩ := HI2.out.2.op HXO.out.2.2 hu
          have HN : Hid (BInv w w3 l' (after s t) pa pc oa j oc As ∧ o'.ok w3 ∧ o'.rep (told s t) ∧ l'.length = nl ∧ o'.ptr = ox.ptr) := Lib.hid ⟨by rw [HAF.out.1]; exact h6, h4, by rw [HAF.out.2]; exact h5, by rw [h3]; exact HI2.out.1, h2⟩
          clear h1 h2 h3 h4 h5 h6 hu HK
          go_wp2_with fail
          go_meet
          exact ⟨l', pa, pc, o', by rw [HN.out.2.2.2.1], HN.out.2.2.2.2.symm, Lib.hid ⟨HN.out.1, HN.out.2.1, HN.out.2.2.1⟩⟩
        · have HK : Hid (Calls Try.prog 25 #[.pointer (some ⟨ox.p, 0, none⟩), .int .u64 (A : Int)] W2 (OpP ox (nextL 8 bx [] A B) W2)) := Lib.hid (k_insert ox bx W2 HXO.out.1 HXO.out.2.1 (by omega) A B (HPL.out (by decide)))
          have HAF : Hid (after s t = s.set on (nextL 8 bx [] A B) ∧ told s t = nextL 8 bx [] A B) := Lib.hid (by
            have e1 : told s t = nextL 8 bx [] A B := by unfold told; rw [HTO.out.1, HTO.out.2.1, HTO.out.2.2.1, HTO.out.2.2.2.1, HTO.out.2.2.2.2.1]; rfl
            refine ⟨?_, e1⟩
            unfold after; rw [HTO.out.1, if_neg (by decide), e1, HTO.out.2.2.2.2.2.1])
          go_wp2_with (go_at_call 25; refine HK.out.mono ?_)
          rintro e w3 ⟨⟨v, rfl⟩, hu⟩
          obtain ⟨l', o', h1, h2, h3, h4, h5, h6⟩ := HI2.out.2.op HXO.out.2.2 hu
          have HN : Hid (BInv w w3 l' (after s t) pa pc oa j oc As ∧ o'.ok w3 ∧ o'.rep (told s t) ∧ l'.length = nl ∧ o'.ptr = ox.ptr) := Lib.hid ⟨by rw [HAF.out.1]; exact h6, h4, by rw [HAF.out.2]; exact h5, by rw [h3]; exact HI2.out.1, h2⟩
          clear h1 h2 h3 h4 h5 h6 hu HK
          go_wp2_with fail
          go_meet
          exact ⟨l', pa, pc, o', by rw [HN.out.2.2.2.1], HN.out.2.2.2.2.symm, Lib.hid ⟨HN.out.1, HN.out.2.1, HN.out.2.2.1⟩⟩
        · have HK : Hid (Calls Try.prog 26 #[.pointer (some ⟨ox.p, 0, none⟩), .int .u64 (A : Int)] W2 (OpP ox (nextL 9 bx [] A B) W2)) := Lib.hid (k_delete ox bx W2 HXO.out.1 HXO.out.2.1 (by omega) A B (HPL.out (by decide)))
          have HAF : Hid (after s t = s.set on (nextL 9 bx [] A B) ∧ told s t = nextL 9 bx [] A B) := Lib.hid (by
            have e1 : told s t = nextL 9 bx [] A B := by unfold told; rw [HTO.out.1, HTO.out.2.1, HTO.out.2.2.1, HTO.out.2.2.2.1, HTO.out.2.2.2.2.1]; rfl
            refine ⟨?_, e1⟩
            unfold after; rw [HTO.out.1, if_neg (by decide), e1, HTO.out.2.2.2.2.2.1])
          go_wp2_with (go_at_call 26; refine HK.out.mono ?_)
          rintro e w3 ⟨⟨v, rfl⟩, hu⟩
          obtain ⟨l', o', h1, h2, h3, h4, h5, h6⟩ := HI2.out.2.op HXO.out.2.2 hu
          have HN : Hid (BInv w w3 l' (after s t) pa pc oa j oc As ∧ o'.ok w3 ∧ o'.rep (told s t) ∧ l'.length = nl ∧ o'.ptr = ox.ptr) := Lib.hid ⟨by rw [HAF.out.1]; exact h6, h4, by rw [HAF.out.2]; exact h5, by rw [h3]; exact HI2.out.1, h2⟩
          clear h1 h2 h3 h4 h5 h6 hu HK
          go_wp2_with fail
          go_meet
          exact ⟨l', pa, pc, o', by rw [HN.out.2.2.2.1], HN.out.2.2.2.2.symm, Lib.hid ⟨HN.out.1, HN.out.2.1, HN.out.2.2.1⟩⟩
        · have HK : Hid (Calls Try.prog 27 #[.pointer (some ⟨ox.p, 0, none⟩), .int .u64 (A : Int)] W2 (OpP ox (nextL 10 bx [] A B) W2)) := Lib.hid (k_shrink ox bx W2 HXO.out.1 HXO.out.2.1 (by omega) A B (HPL.out (by decide)))
          have HAF : Hid (after s t = s.set on (nextL 10 bx [] A B) ∧ told s t = nextL 10 bx [] A B) := Lib.hid (by
            have e1 : told s t = nextL 10 bx [] A B := by unfold told; rw [HTO.out.1, HTO.out.2.1, HTO.out.2.2.1, HTO.out.2.2.2.1, HTO.out.2.2.2.2.1]; rfl
            refine ⟨?_, e1⟩
            unfold after; rw [HTO.out.1, if_neg (by decide), e1, HTO.out.2.2.2.2.2.1])
          go_wp2_with (go_at_call 27; refine HK.out.mono ?_)
          rintro e w3 ⟨⟨v, rfl⟩, hu⟩
          obtain ⟨l', o', h1, h2, h3, h4, h5, h6⟩ := HI2.out.2.op HXO.out.2.2 hu
          have HN : Hid (BInv w w3 l' (after s t) pa pc oa j oc As ∧ o'.ok w3 ∧ o'.rep (told s t) ∧ l'.length = nl ∧ o'.ptr = ox.ptr) := Lib.hid ⟨by rw [HAF.out.1]; exact h6, h4, by rw [HAF.out.2]; exact h5, by rw [h3]; exact HI2.out.1, h2⟩
          clear h1 h2 h3 h4 h5 h6 hu HK
          go_wp2_with fail
          go_meet
          exact ⟨l', pa, pc, o', by rw [HN.out.2.2.2.1], HN.out.2.2.2.2.symm, Lib.hid ⟨HN.out.1, HN.out.2.1, HN.out.2.2.1⟩⟩
        · have HK : Hid (Calls Try.prog 28 #[.pointer (some ⟨ox.p, 0, none⟩), .pointer (some ⟨oy.p, 0, none⟩)] W2 (OpP ox (nextL 11 bx by0 A B) W2)) := Lib.hid (k_union ox oy bx by0 W2 HXO.out.1 HXO.out.2.1 HYO.out.1 HYO.out.2 (by omega) (by omega) HDI.out A B)
          have HAF : Hid (after s t = s.set on (nextL 11 bx by0 A B) ∧ told s t = nextL 11 bx by0 A B) := Lib.hid (by
            have e1 : told s t = nextL 11 bx by0 A B := by unfold told; rw [HTO.out.1, HTO.out.2.1, HTO.out.2.2.1, HTO.out.2.2.2.1, HTO.out.2.2.2.2.1]
            refine ⟨?_, e1⟩
            unfold after; rw [HTO.out.1, if_neg (by decide), e1, HTO.out.2.2.2.2.2.1])
          go_wp2_with (go_at_call 28; refine HK.out.mono ?_)
          rintro e w3 ⟨⟨v, rfl⟩, hu⟩
          obtain ⟨l', o', h1, h2, h3, h4, h5, h6⟩ := HI2.out.2.op HXO.out.2.2 hu
          have HN : Hid (BInv w w3 l' (after s t) pa pc oa j oc As ∧ o'.ok w3 ∧ o'.rep (told s t) ∧ l'.length = nl ∧ o'.ptr = ox.ptr) := Lib.hid ⟨by rw [HAF.out.1]; exact h6, h4, by rw [HAF.out.2]; exact h5, by rw [h3]; exact HI2.out.1, h2⟩
          clear h1 h2 h3 h4 h5 h6 hu HK
          go_wp2_with fail
          go_meet
          exact ⟨l', pa, pc, o', by rw [HN.out.2.2.2.1], HN.out.2.2.2.2.symm, Lib.hid ⟨HN.out.1, HN.out.2.1, HN.out.2.2.1⟩⟩
        · have HK : Hid (Calls Try.prog 29 #[.pointer (some ⟨ox.p, 0, none⟩), .pointer (some ⟨oy.p, 0, none⟩)] W2 (OpP ox (nextL 12 bx by0 A B) W2)) := Lib.hid (k_diff ox oy bx by0 W2 HXO.out.1 HXO.out.2.1 HYO.out.1 HYO.out.2 (by omega) (by omega) HDI.out A B)
          have HAF : Hid (after s t = s.set on (nextL 12 bx by0 A B) ∧ told s t = nextL 12 bx by0 A B) := Lib.hid (by
            have e1 : told s t = nextL 12 bx by0 A B := by unfold told; rw [HTO.out.1, HTO.out.2.1, HTO.out.2.2.1, HTO.out.2.2.2.1, HTO.out.2.2.2.2.1]
            refine ⟨?_, e1⟩
            unfold after; rw [HTO.out.1, if_neg (by decide), e1, HTO.out.2.2.2.2.2.1])
          go_wp2_with (go_at_call 29; refine HK.out.mono ?_)
          rintro e w3 ⟨⟨v, rfl⟩, hu⟩
          obtain ⟨l', o', h1, h2, h3, h4, h5, h6⟩ := HI2.out.2.op HXO.out.2.2 hu
          have HN : Hid (BInv w w3 l' (after s t) pa pc oa j oc As ∧ o'.ok w3 ∧ o'.rep (told s t) ∧ l'.length = nl ∧ o'.ptr = ox.ptr) := Lib.hid ⟨by rw [HAF.out.1]; exact h6, h4, by rw [HAF.out.2]; exact h5, by rw [h3]; exact HI2.out.1, h2⟩
          clear h1 h2 h3 h4 h5 h6 hu HK
          go_wp2_with fail
          go_meet
          exact ⟨l', pa, pc, o', by rw [HN.out.2.2.2.1], HN.out.2.2.2.2.symm, Lib.hid ⟨HN.out.1, HN.out.2.1, HN.out.2.2.1⟩⟩
        · have HK : Hid (Calls Try.prog 30 #[.pointer (some ⟨ox.p, 0, none⟩), .pointer (some ⟨oy.p, 0, none⟩)] W2 (OpP ox (nextL 13 bx by0 A B) W2)) := Lib.hid (k_sym ox oy bx by0 W2 HXO.out.1 HXO.out.2.1 HYO.out.1 HYO.out.2 (by omega) (by omega) HDI.out A B)
          have HAF : Hid (after s t = s.set on (nextL 13 bx by0 A B) ∧ told s t = nextL 13 bx by0 A B) := Lib.hid (by
            have e1 : told s t = nextL 13 bx by0 A B := by unfold told; rw [HTO.out.1, HTO.out.2.1, HTO.out.2.2.1, HTO.out.2.2.2.1, HTO.out.2.2.2.2.1]
            refine ⟨?_, e1⟩
            unfold after; rw [HTO.out.1, if_neg (by decide), e1, HTO.out.2.2.2.2.2.1])
          go_wp2_with (go_at_call 30; refine HK.out.mono ?_)
          rintro e w3 ⟨⟨v, rfl⟩, hu⟩
          obtain ⟨l', o', h1, h2, h3, h4, h5, h6⟩ := HI2.out.2.op HXO.out.2.2 hu
          have HN : Hid (BInv w w3 l' (after s t) pa pc oa j oc As ∧ o'.ok w3 ∧ o'.rep (told s t) ∧ l'.length = nl ∧ o'.ptr = ox.ptr) := Lib.hid ⟨by rw [HAF.out.1]; exact h6, h4, by rw [HAF.out.2]; exact h5, by rw [h3]; exact HI2.out.1, h2⟩
          clear h1 h2 h3 h4 h5 h6 hu HK
          go_wp2_with fail
          go_meet
          exact ⟨l', pa, pc, o', by rw [HN.out.2.2.2.1], HN.out.2.2.2.2.symm, Lib.hid ⟨HN.out.1, HN.out.2.1, HN.out.2.2.1⟩⟩
        · have HK : Hid (Calls Try.prog 31 #[.pointer (some ⟨ox.p, 0, none⟩)] W2 (FObj W2 (bx))) := Lib.hid (k_clone ox bx W2 HXO.out.1 HXO.out.2.1 (by omega))
          have HAF : Hid (after s t = s ++ [bx] ∧ told s t = bx) := Lib.hid (by
            have e1 : told s t = bx := by unfold told; rw [HTO.out.1, HTO.out.2.1]; rfl
            refine ⟨?_, e1⟩
            unfold after; rw [HTO.out.1, if_pos (by decide), e1])
          go_wp2_with (go_at_call 31; refine HK.out.mono ?_)
          rintro e w3 ⟨on, rfl, hok3, hrep3, hm3, hS3, hf3⟩
          have HO3 : Hid (on.ok w3 ∧ on.rep (bx) ∧ Same W2 w3 ∧ ∀ k, on.foot k → W2.heap.size ≤ k) := Lib.hid ⟨hok3, hrep3, hS3, hf3⟩
          clear hok3 hrep3 hm3 hS3 hf3 HK
          unfold O.ptr
          have bb := (HI2.out.2.row).bound
          rw [HI2.out.1] at bb
          have HROW : Hid (Own 45 1 w3 pa nl pc (l.map O.ptr)) := Lib.hid (by have h1 := HI2.out.2.row.keep HO3.out.2.2.1 (fun _ _ => id); rw [HI2.out.1] at h1; exact h1)
          go_wp2_with (at_builtin; refine wpList_append (nl + 1) (l.map O.ptr ++ [on.ptr]) rfl _ _ _ _ rfl slPtr rfl (HROW.out.keep (S := fun _ => False) (by repeat (first | exact Only.refl _ _ | apply Only.alloc | apply Only.drew)) (fun _ _ => id)) rfl (Src.row (size := 1) (cs := #[on.ptr]) (t := 45) (fr := (0, 0)) Try.underlying47 (by exact heap_alloc_new _ _) 1 1 rfl (by intro u hu; exact ptr_one [on] u (by simpa using hu))) rfl (by simp) (by unfold maxLen; omega) (by omega) ?_)
          intro pa2 pc2 w4 hG
          have HN : Hid (BInv w w4 (l ++ [on]) (after s t) pa2 pc2 oa j oc As ∧ on.ok w4) := Lib.hid (by
            rw [HAF.out.1]
            exact HI2.out.2.more HO3.out.2.2.1 HO3.out.1 HO3.out.2.1 HO3.out.2.2.2 ((Only.refl _ _).alloc _) (by rw [HI2.out.1]; exact hG))
          clear hG
          go_wp2_with fail
          go_meet
          exact ⟨l ++ [on], pa2, pc2, on, by rw [List.length_append, HI2.out.1]; rfl, rfl, Lib.hid ⟨HN.out.1, HN.out.2, by rw [HAF.out.2]; exact HO3.out.2.1⟩⟩
        · have HK : Hid (Calls Try.prog 32 #[.pointer (some ⟨ox.p, 0, none⟩)] W2 (FObj W2 (put bx 0 bx.length 2))) := Lib.hid (k_comp ox bx W2 HXO.out.1 HXO.out.2.1 (by omega))
          have HAF : Hid (after s t = s ++ [put bx 0 bx.length 2] ∧ told s t = put bx 0 bx.length 2) := Lib.hid (by
            have e1 : told s t = put bx 0 bx.length 2 := by unfold told; rw [HTO.out.1, HTO.out.2.1]; rfl
            refine ⟨?_, e1⟩
            unfold after; rw [HTO.out.1, if_pos (by decide), e1])
          go_wp2_with (go_at_call 32; refine HK.out.mono ?_)
          rintro e w3 ⟨on, rfl, hok3, hrep3, hm3, hS3, hf3⟩
          have HO3 : Hid (on.ok w3 ∧ on.rep (put bx 0 bx.length 2) ∧ Same W2 w3 ∧ ∀ k, on.foot k → W2.heap.size ≤ k) := Lib.hid ⟨hok3, hrep3, hS3, hf3⟩
          clear hok3 hrep3 hm3 hS3 hf3 HK
          unfold O.ptr
          have bb := (HI2.out.2.row).bound
          rw [HI2.out.1] at bb
          have HROW : Hid (Own 45 1 w3 pa nl pc (l.map O.ptr)) := Lib.hid (by have h1 := HI2.out.2.row.keep HO3.out.2.2.1 (fun _ _ => id); rw [HI2.out.1] at h1; exact h1)
          go_wp2_with (at_builtin; refine wpList_append (nl + 1) (l.map O.ptr ++ [on.ptr]) rfl _ _ _ _ rfl slPtr rfl (HROW.out.keep (S := fun _ => False) (by repeat (first | exact Only.refl _ _ | apply Only.alloc | apply Only.drew)) (fun _ _ => id)) rfl (Src.row (size := 1) (cs := #[on.ptr]) (t := 45) (fr := (0, 0)) Try.underlying47 (by exact heap_alloc_new _ _) 1 1 rfl (by intro u hu; exact ptr_one [on] u (by simpa using hu))) rfl (by simp) (by unfold maxLen; omega) (by omega) ?_)
          intro pa2 pc2 w4 hG
          have HN : Hid (BInv w w4 (l ++ [on]) (after s t) pa2 pc2 oa j oc As ∧ on.ok w4) := Lib.hid (by
            rw [HAF.out.1]
            exact HI2.out.2.more HO3.out.2.2.1 HO3.out.1 HO3.out.2.1 HO3.out.2.2.2 ((Only.refl _ _).alloc _) (by rw [HI2.out.1]; exact hG))
          clear hG
          go_wp2_with fail
          go_meet
          exact ⟨l ++ [on], pa2, pc2, on, by rw [List.length_append, HI2.out.1]; rfl, rfl, Lib.hid ⟨HN.out.1, HN.out.2, by rw [HAF.out.2]; exact HO3.out.2.1⟩⟩
      case rest =>
        obtain ⟨l', pa', pc', o', rfl, rfl, HMD⟩ := hcut
        obtain ⟨W3, hW3⟩ : ∃ W3, wc = W3 := ⟨_, rfl⟩
        rw [hW3] at HMD ⊢
        obtain ⟨nl', hnl'⟩ : ∃ n, l'.length = n := ⟨_, rfl⟩
        rw [hnl']
        have HNL := Lib.hid hnl'
        have HSH2 := HSH.out (j + 1) hlt
        rw [HTK.out, afters_snoc, HS.out] at HSH2
        obtain ⟨nb, hnb⟩ : ∃ nb, told s t = nb := ⟨_, rfl⟩
        rw [hnb] at HMD
        have hnbl : nb.length ≤ 100000 := by
          rw [← hnb]
          have h1 : told s t ∈ after s t := by
            unfold after
            split
            · simp
            · exact List.mem_set (by have := (HOK.out.at (show T[j]? = some t from by have h2 := HTK.out; have h3 := congrArg (fun z => z[j]?) h2; simpa [List.getElem?_take, List.length_take, HT.out.2, Nat.min_eq_left hj] using h3)).on; rw [HS.out] at this; exact this) _
          have := HSH2.1 _ h1
          omega
        have HNB := Lib.hid hnb
        have HSD := Lib.hid (said64 o' nb W3 HMD.out.2.1 HMD.out.2.2 (by omega))
        have bb := HMD.out.1.out.bound
        clear hW3 hnl' hnb HSH2 d3 d4 HI2 HXO HYO HW2
        unfold O.ptr at HSD ⊢
        go_wp2_with (go_at_call 33; refine HSD.out.mono ?_)
        rintro e w4 ⟨ra, rm, rc, rfl, hru, hS4, hf4⟩
        have HR4 : Hid (RU w4 ra rm rc (ones nb) ∧ Same W3 w4 ∧ ∀ i, At ra i → W3.heap.size ≤ i ∧ i < w4.heap.size) := Lib.hid ⟨hru, hS4, hf4⟩
        clear hru hS4 hf4 HSD
        go_wp2_with (at_builtin; refine wpList_append (j + 1) (As.flatMap bc ++ bc ⟨ra, rm, rc, nb⟩) rfl _ _ _ _ rfl slBits rfl ((HMD.out.1.out.still HR4.out.2.1).1.keep (S := fun _ => False) (by repeat (first | exact Only.refl _ _ | apply Only.alloc | apply Only.drew)) (fun _ _ => id)) rfl (Src.row (size := 2) (cs := (bc ⟨ra, rm, rc, nb⟩).toArray) (t := 25) (fr := (0, 0)) Try.underlying32 (by exact heap_alloc_new _ _) 1 1 rfl (by intro u hu; exact bc_one _ u (by simpa using hu))) rfl (by simp) (by unfold maxLen; omega) (by omega) ?_)
        intro oa2 oc2 w5 hG
        have HN5 : Hid (l'.length = nl' ∧ BInv w w5 l' (afters [b] (T.take (j + 1))) pa' pc' oa2 (j + 1) oc2 (As ++ [⟨ra, rm, rc, nb⟩]) ∧ (As ++ [(⟨ra, rm, rc, nb⟩ : Bt)]).map (·.b) = tolds [b] (T.take (j + 1))) := Lib.hid (by
          refine ⟨HNL.out, ?_, ?_⟩
          · rw [HTK.out, afters_snoc, HS.out]
            exact HMD.out.1.said HR4.out.2.1 HR4.out.1 HR4.out.2.2 ((Only.refl _ _).alloc _) hG
          · rw [HTK.out, tolds_snoc, List.map_append, HI.out.2.2, HS.out, HNB.out]; rfl)
        clear hG
        go_wp2_with fail
        go_roundw
        case rel => exact ⟨j + 1, nl', l', pa', oa2, pc', oc2, As ++ [⟨ra, rm, rc, nb⟩], by omega, by go_num, rfl, rfl, HN5⟩
        case measure => simp [intOf]; omega
    · have hlt' : ¬ (j : Int) < (tn : Int) := by omega
      obtain rfl : j = tn := by omega
      have hTT : T.take j = T := List.take_of_length_le (by rw [HT.out.2]; omega)
      rw [hTT] at HI
      go_wp2_with fail
      go_ret
      exact ⟨oa, oc, As, by rw [HLEN.out]; rfl, by rw [HLEN.out]; exact HI.out.2.1.out.rs, HI.out.2.2, fun x hx => (HI.out.2.1.its x hx).1, HI.out.2.1.same⟩
end Go.Proofs.Ytgndpckcdageiaa.bs

/-
  And of a sparse bit array and a dense one.
-/
import Derived.Test.YtacjkbljokjdkaaGreatZBaDel
import Derived.Test.YtacjkbljokjdkaaGreatZBaPairA
import Derived.Test.YtacjkbljokjdkaaGreatZBaOrS
import Derived.Test.YtacjkbljokjdkaaGreatZBaOrM
import Derived.Deep.LoopGhost
namespace Go.Proofs.YtacjkbljokjdkaaGreat.ba
open Go.RowKit Go.Proofs.YtacjkbljokjdkaaGreat.base Go.Proofs.YtacjkbljokjdkaaGreat.heap Go.Proofs.YtacjkbljokjdkaaGreat.rows Go.Proofs.YtacjkbljokjdkaaGreat.bit Go.Proofs.YtacjkbljokjdkaaGreat.bs
set_option linter.unusedVariables false
/-- behind the first loop: the words are reckoned -/
def AndMid (w1 : World) (p : Nat) (ab ai : Option Addr) (M : List (Nat × Nat)) (wx : World) : Prop := SpM w1 wx p ab ai (M.map (·.1)) (M.map (·.2))
theorem map_erase {α β : Type} (f : α → β) (l : List α) (i : Nat) : (l.eraseIdx i).map f = (l.map f).eraseIdx i := by
  rw [List.eraseIdx_eq_take_drop_succ, List.eraseIdx_eq_take_drop_succ, List.map_append, List.map_take, List.map_drop]
set_option maxRecDepth 100000 in
set_option maxHeartbeats 6400000 in
theorem andSD {w : World} {p1 cb1 ci1 p2 c2 lo hi : Nat} {ab1 ai1 a2 : Option Addr} {P : List (Nat × Nat)} {ws l1 l2 : List Nat} {any : Bool} (h1 : Sp w p1 ab1 cb1 ai1 ci1 P) (h2 : Dn w p2 a2 c2 ws lo hi any) (e2 : Ends ws lo hi any) (r1 : Rep (wd P) l1) (r2 : Rep (wf ws) l2) (hroom : ∀ x ∈ P, x.1 < ws.length) :
    Calls Tryz.prog 71 #[.pointer (some ⟨p1, 0, none⟩), .pointer (some ⟨p2, 0, none⟩)] w (NewA ⟨false, 0, andL l1 l2⟩ w) := by
  have HE : Hid (Calls Tryz.prog 64 #[.pointer (some ⟨p2, 0, none⟩)] w fun e w' => e = .returned (.bool (!any)) ∧ w = w') := Lib.hid ((emptyD h2).mono fun e w' h => ⟨h.1, h.2.symm⟩)
  have hsm := h1.sm
  cases any with
  | false =>
    have hn := any_nil r2 e2
    have hl : andL l1 l2 = [] := by rw [hn]; simp [andL]
    rw [hl]
    have HN := Lib.hid (newSp w)
    have HF : Hid (NewA ⟨false, 0, []⟩ w (.returned (.iface 82 (.pointer (some ⟨w.heap.size, 0, none⟩)))) (w.alloc (.cells #[.slice none 0 0, .slice none 0 0] 94))) := Lib.hid (by
      refine ⟨_, _, _, rfl, sp_new w, (Only.refl _ _).alloc _, ?_⟩
      rintro k (rfl | h | h)
      · exact Nat.le_refl _
      · exact h.elim
      · exact h.elim)
    clear h1 h2 e2 r1 r2 hroom hn hl
    go_enter Tryz.func71, Tryz.ntmps71
    go_wp2_with (go_at_call 64; refine HE.out.mono ?_)
    rintro e w' ⟨rfl, rfl⟩
    go_wp2_with (go_at_call 37; refine HN.out.mono ?_)
    rintro e w' ⟨rfl, rfl⟩
    go_wp2_with fail
    go_ret
    exact HF.out
  | true =>
    have HC := Lib.hid (copyS h1)
    have H2 := Lib.hid h2
    have HG := Lib.hid (andP_good (W := wf ws) h1.good)
    have HR := Lib.hid (andP_rep (W := wf ws) h1.good r1 r2)
    have HLN := Lib.hid (andP_len P (wf ws))
    have HRM := Lib.hid hroom
    have HOK := Lib.hid h1.ok
    obtain ⟨n, HN⟩ : ∃ n, Hid (P.length = n) := ⟨_, Lib.hid rfl⟩
    rw [HN.out] at hsm
    generalize andL l1 l2 = L at *
    clear h1 h2 e2 r1 r2 hroom
    go_enter Tryz.func71, Tryz.ntmps71
    go_wp2_with (go_at_call 64; refine HE.out.mono ?_)
    rintro e w' ⟨rfl, rfl⟩
    go_wp2_with (go_at_call 88; refine HC.out.mono ?_)
    rintro e w1 ⟨p, ab, ai, cb, ci, rfl, hsp, hs, hf⟩
    have HS1 : Hid (Same w w1 ∧ ∀ k, Fs p ab ai k → w.heap.size ≤ k) := Lib.hid ⟨hs, hf⟩
    have c1 := hsp.c1
    rw [HN.out] at c1
    have bi := hsp.idx.bound
    rw [HN.out] at bi
    have HM0 : Hid (SpMid w1 w1 p ab ai (P.map (·.1)) (bk P (wf ws) 0) ab cb ai ci) := Lib.hid (by rw [bk_zero]; exact hsp.mid)
    have HD2 := Lib.hid ((H2.out.still hs))
    have hdis : Hid (∀ k, Ft p2 a2 k → ¬ Fs p ab ai k) := Lib.hid (fun k hk e => by have := H2.out.lt k hk; have := hf k e; omega)
    clear hs hf hsp HC HE H2
    go_upto_block 0 with fail
    go_cut [20] (fun _ wx => AndMid w1 p ab ai (P.map (aF (wf ws))) wx)
    case first =>
      go_wp2_with fail
      clear c1
      go_loopw [20] (fun s wr => ∃ k : Nat, k ≤ n ∧ s = .int .i64 (k : Int) ∧ Hid (SpMid w1 wr p ab ai (P.map (·.1)) (bk P (wf ws) k) ab cb ai ci)) (fun s _ => n - (intOf s).toNat)
      case atStart => exact ⟨0, Nat.zero_le _, rfl, HM0⟩
      case round =>
        clear HM0
        obtain ⟨k, hk, rfl, HI⟩ := hrel
        by_cases hkn : k < n
        · have hkn' : (k : Int) < (n : Int) := by omega
          have hk0 : (0 : Int) ≤ (k : Int) := by omega
          obtain ⟨x, hx⟩ : ∃ x, P[k]? = some x := ⟨P[k]'(by have := HN.out; omega), List.getElem?_eq_getElem _⟩
          have hbl := bk_len P (wf ws) k (by have := HN.out; omega)
          rw [HN.out] at hbl
          obtain ⟨i1, i2, i3, i4, i5, i6, i7, i8⟩ := HI.out
          have HD := Lib.hid (HD2.out.keep i7 hdis.out)
          rw [hbl] at i1 i2
          rw [List.length_map, HN.out] at i1 i3
          have d0 : wr.cell? ⟨p, 0, none⟩ = some (.slice ab n cb) := block_cell i1 rfl
          have bb := i2.bound
          obtain ⟨bb1, q1, _, hc1⟩ := i2.at (by omega)
          obtain ⟨ii1, q2, _, hc2⟩ := i3.at (by omega)
          have f2 := hc1 k (.int .u64 (x.2 : Int)) (by unfold U; rw [List.getElem?_map, bk_get hx]; rfl)
          have f1 := hc2 k (.int .u64 (x.1 : Int)) (by unfold U; rw [List.getElem?_map, List.getElem?_map, hx]; rfl)
          rw [Nat.zero_add] at f1 f2
          have fz := i2.frozen q1 k
          obtain ⟨b3, ha3, _, _, e0, _, _, _, _, hc3, _⟩ := HD.out.facts
          obtain ⟨nw, HNW⟩ : ∃ nw, Hid (ws.length = nw) := ⟨_, Lib.hid rfl⟩
          have hxr := HRM.out x (List.mem_of_getElem? hx)
          have t1 := hc3 x.1 hxr
          have hws := HD.out.sm
          rw [HNW.out] at e0 hxr hws
          have hno : ¬ (nw : Int) ≤ (x.1 : Int) := by omega
          have hxl : (x.1 : Int) < (nw : Int) := by omega
          have hx0 : (0 : Int) ≤ (x.1 : Int) := by omega
          have e9 : IntKind.u64.wrap (nw : Int) = (nw : Int) := by rw [IntKind.wrap_u64]; omega
          obtain ⟨v, hv⟩ : ∃ v, x.2 &&& wf ws x.1 = v := ⟨_, rfl⟩
          have HOP : Hid (∀ wx, Calls Tryz.prog 87 #[.int .u64 (x.2 : Int), .int .u64 ((ws.getD x.1 0 : Nat) : Int)] wx fun e w' => e = .returned (.int .u64 (v : Int)) ∧ w' = wx) := Lib.hid (fun wx => by rw [← hv]; exact andW _ _ (HOK.out x (List.mem_of_getElem? hx)).1 (HD.out.ok.at _) wx)
          have HST : Hid (SpMid w1 ((wr.setCell ⟨bb1, k, none⟩ (.int .u64 (v : Int))).drew) p ab ai (P.map (·.1)) (bk P (wf ws) (k + 1)) ab cb ai ci) := Lib.hid (by
            have := (HI.out.put (x := v) q1 (by omega : k < (bk P (wf ws) k).length)).still ((Only.refl _ _).drew)
            rw [← hv, bk_set hx] at this
            rw [← hv]
            exact this)
          generalize ws.getD x.1 0 = y2 at *
          obtain ⟨x1, hx1⟩ : ∃ x1, x.1 = x1 := ⟨_, rfl⟩
          obtain ⟨x2, hx2⟩ : ∃ x2, x.2 = x2 := ⟨_, rfl⟩
          rw [hx2] at f2 HOP
          rw [hx1] at f1 t1 hno hxl hx0
          subst q1
          subst q2
          subst ha3
          clear hx hbl i1 i2 i3 i4 i5 i6 i7 i8 hc1 hc2 hc3 hxr hv hx1 hx2
          go_wp2_with fail
          refine wp_region_still_tail 21 (by kernel_rfl) (by kernel_rfl) ?_
          simp only [List.take_succ_cons, List.take_zero, List.drop_succ_cons, List.drop_zero]
          repeat still_step
          still_call (HOP.out _)
          repeat still_step
          refine wpStill_nil ?_
          go_wp2_with fail
          go_roundw
          case rel => exact ⟨k + 1, by omega, by go_num, HST⟩
          case measure => simp [intOf]; omega
        · have hkn' : ¬ (k : Int) < (n : Int) := by omega
          obtain rfl : k = n := by omega
          have HEND : Hid (AndMid w1 p ab ai (P.map (aF (wf ws))) wr) := Lib.hid (by
            have := HI.out
            rw [← HN.out, bk_end, ← aF_fst P (wf ws)] at this
            exact ⟨_, _, _, _, this⟩)
          go_wp2_with fail
          go_meet
          exact HEND.out
    case rest =>
      obtain ⟨ab2, cb2, ai2, ci2, hM⟩ := hcut
      obtain ⟨M, HMM⟩ : ∃ M, Hid (P.map (aF (wf ws)) = M) := ⟨_, Lib.hid rfl⟩
      have HML : Hid (M.length = n) := Lib.hid (by rw [← HMM.out, List.length_map]; exact HN.out)
      have HZE : Hid (Good (Zk M n) ∧ Rep (wd (Zk M n)) L ∧ (Zk M n).length ≤ 1000000) := Lib.hid (by
        have e : Zk M n = andP P (wf ws) := by
          have := Zk_end M
          rw [HML.out] at this
          rw [this, ← HMM.out]; rfl
        rw [e]
        exact ⟨HG.out, HR.out, by have := HLN.out; have := HN.out; omega⟩)
      have HI0 : Hid (SpMid w1 wc p ab ai ((Zk M 0).map (·.1)) ((Zk M 0).map (·.2)) ab2 cb2 ai2 ci2) := Lib.hid (by
        have e : Zk M 0 = M := by unfold Zk; simp
        rw [e, ← HMM.out]; exact hM)
      clear hM HG HR HLN HRM HOK HD2 hdis HM0 c1 bi
      go_wp2_with fail
      go_loopg [8] n (fun kx s8 wr => ∃ (k i : Nat) (ab2 : Option Addr) (cb2 : Nat) (ai2 : Option Addr) (ci2 : Nat), k ≤ n ∧ n - k ≤ kx ∧ i ≤ k ∧ s8 = .int .i64 (i : Int) ∧ Hid (zi M k = i ∧ SpMid w1 wr p ab ai ((Zk M k).map (·.1)) ((Zk M k).map (·.2)) ab2 cb2 ai2 ci2))
      case atStart => exact ⟨0, 0, ab2, cb2, ai2, ci2, Nat.zero_le _, Nat.le_refl _, Nat.le_refl _, rfl, Lib.hid ⟨rfl, HI0.out⟩⟩
      case round =>
        obtain ⟨k, i, ab3, cb3, ai3, ci3, hk, hkx, hik, rfl, HI⟩ := hrel
        clear HI0
        obtain ⟨i1, i2, i3, i4, i5, i6, i7, i8⟩ := HI.out.2
        have hzl := Zk_len M k
        rw [HML.out, HI.out.1] at hzl
        have hlb : ((Zk M k).map (·.2)).length = i + (n - k) := by rw [List.length_map]; exact hzl
        have hli : ((Zk M k).map (·.1)).length = i + (n - k) := by rw [List.length_map]; exact hzl
        rw [hlb] at i1 i2
        rw [hli] at i1 i3
        have bb := i2.bound
        have bi := i3.bound
        have hi0 : (0 : Int) ≤ (i : Int) := by omega
        obtain ⟨z, HZ⟩ : ∃ z, Hid (i + (n - k) = z) := ⟨_, Lib.hid rfl⟩
        rw [HZ.out] at i1 i2 i3 bb bi hlb hli
        have d0 : wr.cell? ⟨p, 0, none⟩ = some (.slice ab3 z cb3) := block_cell i1 rfl
        by_cases hkn : k < n
        · have hiz : (i : Int) < (z : Int) := by have := HZ.out; omega
          obtain ⟨x, hx⟩ : ∃ x, M[k]? = some x := ⟨M[k]'(by have := HML.out; omega), List.getElem?_eq_getElem _⟩
          have hzg := Zk_get hx
          rw [HI.out.1] at hzg
          obtain ⟨bb1, q1, _, hc1⟩ := i2.at (by omega)
          have f2 := hc1 i (.int .u64 (x.2 : Int)) (by unfold U; rw [List.getElem?_map, List.getElem?_map, hzg]; rfl)
          rw [Nat.zero_add] at f2
          by_cases h0 : x.2 = 0
          · obtain ⟨z1, z2⟩ := Zk_zero hx h0
            rw [HI.out.1] at z1 z2
            rw [h0] at f2
            obtain ⟨B, HB⟩ : ∃ B, Hid ((Zk M k).map (·.2) = B) := ⟨_, Lib.hid rfl⟩
            obtain ⟨I, HII⟩ : ∃ I, Hid ((Zk M k).map (·.1) = I) := ⟨_, Lib.hid rfl⟩
            obtain ⟨B2, HB2⟩ : ∃ B2, Hid (B.eraseIdx i = B2) := ⟨_, Lib.hid rfl⟩
            obtain ⟨I2, HI2⟩ : ∃ I2, Hid (I.eraseIdx i = I2) := ⟨_, Lib.hid rfl⟩
            rw [HB.out] at hlb
            rw [HII.out] at hli
            have HIB : Hid (SpMid w1 wr p ab ai I B ab3 cb3 ai3 ci3) := Lib.hid (by rw [← HB.out, ← HII.out]; exact HI.out.2)
            have HDB : Hid (Calls Tryz.prog 89 #[.pointer (some ⟨p, 0, none⟩), .int .i64 (i : Int)] wr (RowP p 0 74 #[.slice ab3 B.length cb3, .slice ai3 I.length ci3] 94 ab3 B2 (.tuple #[]) wr)) :=
              Lib.hid (by rw [← HB2.out]; exact delB HIB.out.1 rfl HIB.out.2.1 rfl HIB.out.2.2.2.1 i (by omega) (by have := HZ.out; omega))
            have HZZ : Hid (B2 = (Zk M (k + 1)).map (·.2) ∧ I2 = (Zk M (k + 1)).map (·.1) ∧ zi M (k + 1) = i) := Lib.hid ⟨by rw [← HB2.out, ← HB.out, ← map_erase, z1], by rw [← HI2.out, ← HII.out, ← map_erase, z1], z2⟩
            have HLI : Hid (I.length = z ∧ i < z ∧ z ≤ 1000000) := Lib.hid ⟨hli, by omega, by have := HZ.out; omega⟩
            subst q1
            clear i1 i2 i3 i4 i5 i6 i7 i8 hzl hlb hli hc1 hx hzg h0 z1 z2
            go_wp2_with (go_at_call 89; refine HDB.out.mono ?_)
            intro e w2 hR
            obtain ⟨rfl, ab4, cb4, hM2⟩ := HIB.out.blk hR
            have HM2 := Lib.hid hM2
            have HDU : Hid (Calls Tryz.prog 90 #[.pointer (some ⟨p, 1, none⟩), .int .i64 (i : Int)] w2 (RowP p 1 34 #[.slice ab4 B2.length cb4, .slice ai3 I.length ci3] 94 ai3 I2 (.tuple #[]) w2)) :=
              Lib.hid (by rw [← HI2.out]; exact delU HM2.out.1 rfl HM2.out.2.2.1 rfl HM2.out.2.2.2.2.1 i (by have := HLI.out; omega) (by have := HLI.out; omega))
            clear hR hM2 HDB d0 f2
            go_wp2_with (go_at_call 90; refine HDU.out.mono ?_)
            intro e w3 hR
            obtain ⟨rfl, ai4, ci4, hM3⟩ := HM2.out.idx hR
            rw [HZZ.out.1, HZZ.out.2.1] at hM3
            have HM3 := Lib.hid hM3
            clear hR hM3 HDU HM2
            go_wp2_with fail
            go_roundg (n - (k + 1))
            case measure => omega
            case rel => exact ⟨k + 1, i, ab4, cb4, ai4, ci4, by omega, Nat.le_refl _, by omega, by go_num, Lib.hid ⟨HZZ.out.2.2, HM3.out⟩⟩
          · obtain ⟨z1, z2⟩ := Zk_nz hx h0
            rw [HI.out.1] at z2
            have h0' : (((x.2 : Nat) : Int) == 0) = false := by rw [beq_eq_false_iff_ne]; omega
            have HNX : Hid (zi M (k + 1) = i + 1 ∧ SpMid w1 wr p ab ai ((Zk M (k + 1)).map (·.1)) ((Zk M (k + 1)).map (·.2)) ab3 cb3 ai3 ci3) := Lib.hid ⟨z2, by rw [z1]; exact HI.out.2⟩
            generalize x.2 = x2 at *
            subst q1
            clear i1 i2 i3 i4 i5 i6 i7 i8 hzl hlb hli hc1 hx hzg h0 z1 z2
            go_wp2_with fail
            go_roundg (n - (k + 1))
            case measure => omega
            case rel => exact ⟨k + 1, i + 1, _, cb3, ai3, ci3, by omega, Nat.le_refl _, by omega, by go_num, HNX⟩
        · obtain rfl : k = n := by omega
          have hiz : ¬ (i : Int) < (z : Int) := by have := HZ.out; omega
          have HSP := Lib.hid (HI.out.2.sp HZE.out.1 HZE.out.2.2)
          have HFN : Hid (NewA ⟨false, 0, L⟩ w (.returned (.iface 82 (.pointer (some ⟨p, 0, none⟩)))) wr) := Lib.hid (by
            refine ⟨_, _, _, rfl, .sparse p ab3 cb3 ai3 ci3 _ L HSP.out HZE.out.2.1, new_only HS1.out.1 i7 HS1.out.2, fun j hj => ?_⟩
            rcases i8 j hj with h | h
            · exact HS1.out.2 j h
            · have := HS1.out.1.size; omega)
          clear i1 i2 i3 i4 i5 i6 i7 i8 hzl hlb hli
          go_wp2_with fail
          go_ret
          exact HFN.out
end Go.Proofs.YtacjkbljokjdkaaGreat.ba

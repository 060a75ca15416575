/-
  Steps on impl's heap: the walks. Printed by gen_step.py.
-/
import Derived.Test.YtpddddjfjmipfaaFhTwo
import Derived.Test.YtpddddjfjmipfaaFhStep1
import Derived.Test.YtpddddjfjmipfaaFhStep2
import Derived.BigQuiet
namespace Go.Proofs.Ytpddddjfjmipfaa.fh
open Go.RowKit Go.Proofs.Ytpddddjfjmipfaa.base Go.Proofs.Ytpddddjfjmipfaa.heap Go.Proofs.Ytpddddjfjmipfaa.rows Go.Proofs.Ytpddddjfjmipfaa.flt
set_option linter.unusedVariables false

set_option maxRecDepth 100000 in
theorem newHeap (w : World) : Calls Try.prog 15 #[] w fun e w' => e = .returned (.agg #[.pointer none, .int .u64 0]) ∧ Same w w' := by
  go_enter Try.func15, Try.ntmps15
  go_wp2_with fail
  refine bodyPost_ret (v := .agg #[.pointer none, .int .u64 0]) ?_ rfl ?_
  · simp [results, Try.results15, go_sem]
  exact ⟨rfl, (Only.refl _ _).alloc _⟩
set_option maxRecDepth 100000 in
set_option maxHeartbeats 16400000 in
theorem step6 (w : World) (gb hb : Nat) (ea : Option Addr) (ec : Nat) (X : List Ent) (A : List Nat) (pr : Nat → Nat) (h : Fh w gb hb ea ec X A pr) (s : Stp) (hs : s.op = 6) (hX : X.length < 50000) (hA : A.length < 50000) (hr : RL iv w s.a s.m s.cap s.L) (hm : s.m ≤ 1000) (hap : 0 < s.m → ∀ k, At s.a k → ¬ FG gb hb ea A k) (hsm : ∀ p ∈ s.L, p.natAbs ≤ Big) :
    Calls Try.prog 16 #[pp gb, .agg #[.int .i64 6, .int .i64 s.n, .int .i64 s.p, .slice s.a s.m s.cap]] w (StPost gb hb ea A X s w) := by
  have HF := Lib.hid h
  have HS := Lib.hid hs
  have HR := Lib.hid hr
  have HAP := Lib.hid hap
  have HSM := Lib.hid hsm
  have lg := lt_of_heap h.obj
  have hbd := hr.bound
  obtain ⟨sa, hsa⟩ : ∃ sa, s.a = sa := ⟨_, rfl⟩
  obtain ⟨sm, hsm'⟩ : ∃ sm, s.m = sm := ⟨_, rfl⟩
  obtain ⟨sc, hsc⟩ : ∃ sc, s.cap = sc := ⟨_, rfl⟩
  rw [hsa, hsm', hsc] at HR
  rw [hsm', hsc] at hbd
  rw [hsm'] at hm
  rw [hsa, hsm'] at HAP
  rw [hsa, hsm', hsc]
  clear h hs hr hap hsm hsa hsm' hsc
  have HN := Lib.hid (fun wx => newHeap wx)
  go_enter Try.func16, Try.ntmps16
  go_wp2_with fail
  obtain ⟨w1, hw1⟩ : ∃ w1, ((w.alloc (.cells #[.int .i64 6, .int .i64 s.n, .int .i64 s.p, .slice sa sm sc] 31)).alloc (.cells #[.bool false, .int .i64 0, .int .i64 0, .int .i64 0, .bool false] 35)) = w1 := ⟨_, rfl⟩
  have HW1 : Hid (StW w w1 6 s.n s.p sa sm sc) := Lib.hid (by rw [← hw1]; exact stw _ _ _ _ _ _ _)
  rw [hw1]
  clear hw1
  refine (HN.out _).mono ?_
  rintro e w2 ⟨rfl, hs2⟩
  have x3 : w2.cell? ⟨w.heap.size, 3, none⟩ = some (.slice sa sm sc) := block_cell (hs2.obj HW1.out.2.1 id) rfl
  have HS2 : Hid (Same w w2) := Lib.hid (HW1.out.1.trans hs2)
  have hz2 := hs2.obj HW1.out.2.2 id
  have hb2 := hs2.obj HW1.out.2.1 id
  obtain ⟨h8, hh8⟩ : ∃ h8, w2.heap.size = h8 := ⟨_, rfl⟩
  have H8 := Lib.hid hh8
  have HM0 : Hid (Mrg w gb hb h8 ea X A s.L 0 ea ec [] [] pr (w2.alloc (.cells #[.pointer none, .int .u64 0] 48))) := Lib.hid (by
    have hsz := HS2.out.size
    have h2 := HF.out.two (w' := w2.alloc (.cells #[.pointer none, .int .u64 0] 48)) (h8 := h8) (HS2.out.alloc _) (by rw [← hh8]; exact heap_alloc_new _ _) (by omega)
    refine ⟨by rw [List.append_nil]; exact h2, rfl, ⟨rfl, rfl⟩, (HS2.out.alloc _).mono (fun _ _ f => f.elim), fun k hk => ?_, ((Only.refl (fun _ => False) w2).alloc _).obj hz2 id, ?_⟩
    · rcases hk with e | hk | hk | hk
      · exact .inl (.inl e)
      · exact .inl (.inr (.inl hk))
      · rcases hk with e | hk
        · exact .inr (by omega)
        · cases hk
      · exact .inl (.inr (.inr hk))
    · rw [((Only.refl (fun _ => False) w2).alloc _).obj hb2 id]; simp)
  have l2 := lt_of_heap hb2
  clear hs2 hz2 hb2 HN HW1 hh8
  go_wp2_with fail
  rw [H8.out]
  generalize (w2.alloc (.cells #[.pointer none, .int .u64 0] 48)) = w3 at HM0 ⊢
  go_loopw [142] (fun i wr => ∃ (j : Nat) (ea1 : Option Addr) (ec1 : Nat) (Y : List Ent) (B : List Nat) (pr1 : Nat → Nat), i = .int .i64 (j : Int) ∧ j ≤ sm ∧ Hid (Mrg w gb hb h8 ea X A s.L j ea1 ec1 Y B pr1 wr)) (fun i _ => sm - (intOf i).toNat)
  case atStart => exact ⟨0, ea, ec, [], [], pr, rfl, Nat.zero_le _, HM0⟩
  case round =>
    clear HM0
    obtain ⟨j, ea1, ec1, Y, B, pr1, rfl, hj, HM⟩ := hrel
    have hlen : (X ++ Y).length = X.length + j := by rw [List.length_append, HM.out.len.1]
    have HLEN := Lib.hid hlen
    have hob := HM.out.fh.obj
    rw [hlen] at hob
    have c0 : wr.cell? ⟨gb, 0, none⟩ = some (pp hb) := block_cell hob rfl
    have c1 : wr.cell? ⟨gb, 1, none⟩ = some (.slice ea1 (X.length + j) ec1) := block_cell hob rfl
    have hbe := HM.out.fh.ents.bound
    rw [hlen] at hbe
    by_cases hlt : j < sm
    · have hlt' : (j : Int) < (sm : Int) := by omega
      obtain ⟨p, hp⟩ := HR.out.get hlt
      obtain ⟨b0, off, rfl, hb0, hcs⟩ := (HR.out.keep HM.out.only (HAP.out (by omega))).at (by omega)
      have c2 : wr.cell? ⟨b0, off + j, none⟩ = some (.int .i64 p) := hcs j p hp
      have HP := Lib.hid hp
      have HPB := Lib.hid (HSM.out p (List.mem_of_getElem? hp))
      have HE : Hid (∀ wx, Same wr wx → Calls Try.prog 24 #[pp h8, .float .f64 (fl p)] wx (fun e w' => ∃ b, e = .returned (pp b) ∧ Hid (wr.heap.size ≤ b ∧ HpX w' h8 (B ++ [b]) (put pr1 b (fl p)) ∧ Only (Fp h8 B) wr w'))) := Lib.hid (fun wx hs => by
        refine (enqueue h8 B pr1 (fl p) wx (HM.out.fh.two.still hs) (fin_fl (big53 HPB.out)) (by have := HM.out.len.2; omega)).mono ?_
        rintro e w' ⟨b, h1, h2, h3, h4⟩
        exact ⟨b, h1, Lib.hid ⟨by have := hs.size; omega, h3, Only.trans (S := Fp h8 B) (hs.mono (fun _ _ f => f.elim)) h4 (fun _ _ h => h)⟩⟩)
      clear hcs hp hob hlen
      have HW9 : Hid (∀ w3 w9 b ea2 ec2 w3', Hid (wr.heap.size ≤ b ∧ HpX w3 h8 (B ++ [b]) (put pr1 b (fl p)) ∧ Only (Fp h8 B) wr w3) → Same w3 w3' → Grew 45 1 w3' w9 ea1 ea2 1 (X.length + j + 1) ec1 ec2 ((X ++ Y).map pe ++ [pp b]) →
          w9.heap[gb]? = some (.cells #[pp hb, .slice ea1 (X.length + j) ec1] 54 (0, 0)) ∧ Mrg w gb hb h8 ea X A s.L (j + 1) ea2 ec2 (Y ++ [some (b, p)]) (B ++ [b]) (put pr1 b (fl p)) (w9.setCell ⟨gb, 1, none⟩ (.slice ea2 (X.length + j + 1) ec2))) := Lib.hid (fun w3 w9 b ea2 ec2 w3' H3 hs hG => by
        refine ⟨?_, ?_⟩
        · have := hG.only.obj (hs.obj (H3.out.2.2.obj HM.out.fh.obj HM.out.fh.gnb.2) id) HM.out.fh.gna
          rw [HLEN.out] at this; exact this
        · have := HM.out.step HP.out HPB.out H3.out.1 H3.out.2.1 H3.out.2.2 hs (by rw [HLEN.out]; exact hG)
          rw [HLEN.out] at this; exact this)
      have HD1 : Hid (∀ w3, Only (Fp h8 B) wr w3 → w3.cell? ⟨gb, 1, none⟩ = some (.slice ea1 (X.length + j) ec1) ∧ OL 45 pe w3 ea1 (X.length + j) ec1 (X ++ Y) ∧ gb < w3.heap.size) := Lib.hid (fun w3 ho => by
        have h1 := ho.obj HM.out.fh.obj HM.out.fh.gnb.2
        have h2 := HM.out.fh.ents.keep ho (fun k hk => (HM.out.fh.ena k hk).2)
        rw [HLEN.out] at h1 h2
        exact ⟨block_cell h1 rfl, h2, lt_of_heap h1⟩)
      go_wp2_with fail
      clear HM HP HPB HLEN HF HS HSM HR HAP c0 c2 H8 HS2 hb0 lg x3 l2
      go_region_law (first
        | (go_simp; go_at_call 24; refine (HE.out _ (by repeat (first | exact Only.refl _ _ | apply Only.alloc | apply Only.drew | apply Only.drewN))).mono ?_; rintro e w3 ⟨b, rfl, H3⟩; have d1 := (HD1.out w3 H3.out.2.2).1; have HOW := Lib.hid (HD1.out w3 H3.out.2.2).2.1; have lg3 := (HD1.out w3 H3.out.2.2).2.2)
        | (refine step_app (X.length + j + 1) ((X ++ Y).map pe ++ [pp b]) (by rfl) _ _ _ _ (by rfl) slEnt ?_ (HOW.out.1.keep (S := fun _ => False) (by with_reducible repeat (first | exact Only.refl _ _ | apply Only.alloc | apply Only.drew)) (fun _ _ => id)) ?_ (Src.row (size := 1) (cs := #[pp b]) (t := 45) (fr := (0, 0)) Try.underlying52 (by exact heap_alloc_new _ _) 1 1 rfl (by simp [Value.oneCell'])) rfl rfl (by unfold maxLen; omega) (by omega) ?_; (go_simp); (go_simp); intro ea2 ec2 w9 hG; have HN9 := Lib.hid (HW9.out w3 w9 b ea2 ec2 _ H3 ((Only.refl _ _).alloc _) hG); have d2 : w9.cell? ⟨gb, 0, none⟩ = some (pp hb) := block_cell HN9.out.1 rfl; have d3 : w9.cell? ⟨gb, 1, none⟩ = some (.slice ea1 (X.length + j) ec1) := block_cell HN9.out.1 rfl; have d4 : ∀ i, w9.frozen? ⟨gb, i, none⟩ = false := (fun i => block_free HN9.out.1); clear hG))
      all_goals
        have HN10 := Lib.hid HN9.out.2
        generalize (w9.setCell ⟨gb, 1, none⟩ (.slice ea2 (X.length + j + 1) ec2)) = w10 at HN10 ⊢
        clear HN9 HW9 HE HD1 HOW H3 d1 d2 d3 d4 lg3 c1
        go_wp2_with fail
        go_roundw
        case rel => exact ⟨j + 1, ea2, ec2, _, _, _, by go_num, by omega, HN10⟩
        case measure => simp [intOf]; omega
    · have hlt' : ¬ (j : Int) < (sm : Int) := by omega
      obtain rfl : j = sm := by omega
      have hhb : hb ≠ h8 := fun e => HM.out.fh.dis hb (.inl rfl) (.inl e)
      have HMG : Hid (Calls Try.prog 31 #[pp hb, pp h8] wr (MrP hb h8 A B pr1 wr)) := Lib.hid (merge hb h8 A B pr1 wr HM.out.fh.heap HM.out.fh.two (fun u hu hu2 => HM.out.fh.dis u (.inr hu) (.inr hu2)) (fun hu => HM.out.fh.dis hb (.inl rfl) (.inr hu)) (fun hu => HM.out.fh.dis h8 (.inr hu) (.inl rfl)) hhb (by have := HM.out.len.2; omega))
      have hgb : gb < wr.heap.size := lt_of_heap hob
      clear c1 hbe hlen
      go_wp2_with fail
      refine HMG.out.mono ?_
      rintro e w4 ⟨mn, rfl, ho1, ho2, hpm, hO⟩
      have HFN : Hid (∀ w5, w5 = (w4.setCell ⟨gb, 0, none⟩ (pp w4.heap.size)).alloc (.cells #[po mn, .int .u64 ((A.length + B.length : Nat) : Int)] 48) → _) := Lib.hid (fun w5 hw5 => HM.out.fin ho1 ho2 hpm hO hw5)
      have hob4 := hO.obj HM.out.fh.obj (fun hf => hf.elim HM.out.fh.gnb.1 HM.out.fh.gnb.2)
      have d0 : w4.cell? ⟨gb, 0, none⟩ = some (pp hb) := block_cell hob4 rfl
      have d1 : ∀ i, w4.frozen? ⟨gb, i, none⟩ = false := fun i => block_free hob4
      have lg4 := lt_of_heap hob4
      obtain ⟨pm, hpm'⟩ : ∃ pm, po mn = .pointer pm := ⟨_, rfl⟩
      obtain ⟨ab, hab⟩ : ∃ ab, ((A.length + B.length : Nat) : Int) = ab := ⟨_, rfl⟩
      rw [hpm', hab] at HFN ⊢
      have HTG : Hid (tag (X ++ Y) = tag X ++ s.L.map some) := Lib.hid (by
        have h9 := HM.out.said
        rw [List.take_of_length_le (by rw [HR.out.2]; exact Nat.le_refl _)] at h9
        unfold tag at h9 ⊢
        rw [List.map_append, h9])
      clear ho1 ho2 hpm hO hob4 hob c0 hhb hgb HMG hpm' hab HM HR HSM HAP H8 HS2
      go_wp2_with fail
      obtain ⟨w5, hw5⟩ : ∃ w5, (w4.setCell ⟨gb, 0, none⟩ (pp w4.heap.size)).alloc (.cells #[.pointer pm, .int .u64 ab] 48) = w5 := ⟨_, rfl⟩
      have H5 := Lib.hid (HFN.out w5 hw5.symm)
      rw [hw5]
      have HI1 : Hid (Calls Try.prog 18 #[pp hb] w5 fun e w' => e = .returned (.bool true) ∧ w5 = w') := Lib.hid (isEmpty w5 hb 0 none H5.out.2.2.2.2.1)
      have HI2 : Hid (Calls Try.prog 18 #[pp h8] w5 fun e w' => e = .returned (.bool true) ∧ w5 = w') := Lib.hid (isEmpty w5 h8 0 none H5.out.2.2.2.2.2)
      clear hw5 HFN d0 d1 lg4
      refine HI1.out.mono ?_
      rintro e w6 ⟨rfl, rfl⟩
      go_wp2_with fail
      refine HI2.out.mono ?_
      rintro e w7 ⟨rfl, rfl⟩
      have hz5 := H5.out.2.2.2.1
      have HST := Lib.hid (stfin (X := X) (s := s) (x := ⟨true, -1, 0, 0, false⟩) (ea := ea) (A := A) H5.out.1 H5.out.2.1 H5.out.2.2.1 hz5 (by rw [HTG.out]; exact .mrg HS.out) ⟨rfl, rfl⟩)
      have z0 : w5.cell? ⟨w.heap.size + 1, 0, none⟩ = some (.bool false) := block_cell hz5 rfl
      have z1 : w5.cell? ⟨w.heap.size + 1, 1, none⟩ = some (.int .i64 0) := block_cell hz5 rfl
      have z2 : w5.cell? ⟨w.heap.size + 1, 2, none⟩ = some (.int .i64 0) := block_cell hz5 rfl
      have z3 : w5.cell? ⟨w.heap.size + 1, 3, none⟩ = some (.int .i64 0) := block_cell hz5 rfl
      have z4 : w5.cell? ⟨w.heap.size + 1, 4, none⟩ = some (.bool false) := block_cell hz5 rfl
      have zf : ∀ i, w5.frozen? ⟨w.heap.size + 1, i, none⟩ = false := fun i => block_free hz5
      clear hz5 H5 HI1 HI2 HTG
      go_wp2_with fail
      obtain ⟨w7, hw7⟩ : ∃ w7, set5 w5 (w.heap.size + 1) (.bool true) (.int .i64 (-1)) (.int .i64 0) (.int .i64 0) (.bool false) = w7 := ⟨_, rfl⟩
      have h7 : StPost gb hb ea A X s w (.returned (.agg #[.bool true, .int .i64 (-1), .int .i64 0, .int .i64 0, .bool false])) w7 ∧ w7.heap[w.heap.size + 1]? = some (.cells #[.bool true, .int .i64 (-1), .int .i64 0, .int .i64 0, .bool false] 35 (0, 0)) := by rw [← hw7]; exact HST.out
      unfold set5 at hw7
      rw [hw7]
      have H7 := Lib.hid h7.1
      have y0 := block_cell (j := 0) h7.2 rfl
      have y1 := block_cell (j := 1) h7.2 rfl
      have y2 := block_cell (j := 2) h7.2 rfl
      have y3 := block_cell (j := 3) h7.2 rfl
      have y4 := block_cell (j := 4) h7.2 rfl
      clear h7 hw7 HST
      refine bodyPost_ret (v := .agg #[.bool true, .int .i64 (-1), .int .i64 0, .int .i64 0, .bool false]) ?_ rfl ?_
      · simp [results, Try.results16, go_sem, y0, y1, y2, y3, y4]
      exact H7.out

theorem stepAny (w : World) (gb hb : Nat) (ea : Option Addr) (ec : Nat) (X : List Ent) (A : List Nat) (pr : Nat → Nat) (h : Fh w gb hb ea ec X A pr) (s : Stp) (hop : 1 ≤ s.op ∧ s.op ≤ 6) (hX : X.length < 50000) (hA : A.length < 50000) (hp : s.p.natAbs ≤ Big) (hr : RL iv w s.a s.m s.cap s.L) (hm : s.m ≤ 1000) (hap : 0 < s.m → ∀ k, At s.a k → ¬ FG gb hb ea A k) (hsm : ∀ p ∈ s.L, p.natAbs ≤ Big) :
    Calls Try.prog 16 #[pp gb, .agg #[.int .i64 s.op, .int .i64 s.n, .int .i64 s.p, .slice s.a s.m s.cap]] w (StPost gb hb ea A X s w) := by
  have h6 : s.op = 1 ∨ s.op = 2 ∨ s.op = 3 ∨ s.op = 4 ∨ s.op = 5 ∨ s.op = 6 := by omega
  have hdec : (∃ (k : Nat) (q : Int), s.n = (k : Int) ∧ (tag X)[k]? = some (some q)) ∨ ∀ (k : Nat) (q : Int), s.n = (k : Int) → (tag X)[k]? ≠ some (some q) := by
    by_cases h0 : 0 ≤ s.n
    · cases h9 : (tag X)[s.n.toNat]? with
      | none => exact .inr (fun k q hk => by rw [hk, Int.toNat_natCast] at h9; rw [h9]; simp)
      | some y =>
        cases y with
        | none => exact .inr (fun k q hk => by rw [hk, Int.toNat_natCast] at h9; rw [h9]; simp)
        | some q => exact .inl ⟨s.n.toNat, q, by omega, h9⟩
    · exact .inr (fun k q hk => by omega)
  rcases h6 with e | e | e | e | e | e
  · have := step1 w gb hb ea ec X A pr h s e hp hX hA
    rw [e]; exact this
  · have := step2 w gb hb ea ec X A pr h s e hX
    rw [e]; exact this
  · have := step3 w gb hb ea ec X A pr h s e hX hA
    rw [e]; exact this
  · rcases hdec with ⟨k, q, hk, hq⟩ | hn
    · by_cases hlt : s.p < q
      · have := step4a w gb hb ea ec X A pr h s e hX hA hp k q hk hq hlt
        rw [e]; exact this
      · have := step4b w gb hb ea ec X A pr h s e hX hA hp k q hk hq (by omega)
        rw [e]; exact this
    · have := stepoff4 w gb hb ea ec X A pr h s e hX hn
      rw [e]; exact this
  · rcases hdec with ⟨k, q, hk, hq⟩ | hn
    · have := step5 w gb hb ea ec X A pr h s e hX hA k q hk hq
      rw [e]; exact this
    · have := stepoff5 w gb hb ea ec X A pr h s e hX hn
      rw [e]; exact this
  · have := step6 w gb hb ea ec X A pr h s e hX hA hr hm hap hsm
    rw [e]; exact this
end Go.Proofs.Ytpddddjfjmipfaa.fh

/-
  Steps on impl's heap: the walks. Printed by gen_step.py.
-/
import Derived.Test.YtpddddjfjmipfaaFhStep
import Derived.BigQuiet
namespace Go.Proofs.Ytpddddjfjmipfaa.fh
open Go.RowKit Go.Proofs.Ytpddddjfjmipfaa.base Go.Proofs.Ytpddddjfjmipfaa.heap Go.Proofs.Ytpddddjfjmipfaa.rows Go.Proofs.Ytpddddjfjmipfaa.flt
set_option linter.unusedVariables false

set_option maxRecDepth 100000 in
set_option maxHeartbeats 3200000 in
theorem step4a (w : World) (gb hb : Nat) (ea : Option Addr) (ec : Nat) (X : List Ent) (A : List Nat) (pr : Nat → Nat) (h : Fh w gb hb ea ec X A pr) (s : Stp) (hs : s.op = 4) (hX : X.length < 50000) (hA : A.length < 50000) (hp : s.p.natAbs ≤ Big) (k : Nat) (q : Int) (hk : s.n = (k : Int)) (hq : (tag X)[k]? = some (some q)) (hlt : s.p < q) : Calls Try.prog 16 #[pp gb, .agg #[.int .i64 4, .int .i64 s.n, .int .i64 s.p, .slice s.a s.m s.cap]] w (StPost gb hb ea A X s w) := by
  have lg := lt_of_heap h.obj
  have HF := Lib.hid h
  have HS := Lib.hid hs
  obtain ⟨x, hx⟩ := tag_at.1 hq
  have HX := Lib.hid hx
  have HQ := Lib.hid hq
  have hkl := (List.getElem?_eq_some_iff.1 hx).1
  have hxA : x ∈ A := (h.live x).2 ⟨q, List.mem_of_getElem? hx⟩
  have HXA := Lib.hid hxA
  have hq1 := h.val x q (List.mem_of_getElem? hx)
  have HQ1 := Lib.hid hq1
  have lx : x < w.heap.size := h.heap.lt x (.inr hxA)
  obtain ⟨sn, hsn⟩ : ∃ sn, s.n = sn := ⟨_, rfl⟩
  have HSN := Lib.hid hsn
  rw [hsn]
  rw [hsn] at hk
  have HK := Lib.hid hk
  subst hk
  have HD : Hid (∀ w6, Same w w6 → ∀ wx, Same w6 wx → Calls Try.prog 29 #[pp hb, pp x, .float .f64 (fl s.p)] wx (fun e w' => e = .returned (.tuple #[pp x, .nilIface]) ∧ Only (Fp hb A) w6 w' ∧ Hid (HpX w' hb A (put pr x (fl s.p))))) := Lib.hid (fun w6 h6 wx hs => by
    refine (decreaseKey hb x (fl s.p) A pr wx (h.heap.still (h6.trans hs)) hxA (fin_fl (big53 hp)) (by omega)).mono ?_
    rintro e w' (⟨h1, _⟩ | ⟨h1, h2, h3, h4⟩)
    · rw [hq1.1] at h1
      have := (fl_le (big53 hq1.2) (big53 hp)).1 h1
      omega
    · exact ⟨h2, Only.trans (S := Fp hb A) (hs.mono (fun _ _ f => f.elim)) h4 (fun _ _ h => h), Lib.hid h3⟩)
  have HSE : Hid (∀ w6, Same w w6 → ∀ wx, Hid (HpX wx hb A (put pr x (fl s.p))) → Only (Fp hb A) w6 wx → Calls Try.prog 25 #[pp gb, pp x, .nilIface] wx (fun e w' => e = .returned (anv ⟨true, (k : Int), s.p, 0, false⟩) ∧ Only (Fp hb A) w6 w' ∧ Hid (HpX w' hb A (put pr x (fl s.p))))) := Lib.hid (fun w6 h6 wx hh ho => by
    have hO : Only (Fp hb A) w wx := Only.trans (S := Fp hb A) (h6.mono (fun _ _ f => f.elim)) ho (fun _ _ h => h)
    have hF := h.low hx hp hh.out hO
    have hob := hF.obj
    have hol := hF.ents.rl
    rw [List.length_set] at hob hol
    refine (said_some wx gb hb X.length ec k x s.p ea _ hob hol (by omega) (by rw [List.getElem?_set, if_pos rfl, if_pos hkl]) (fun j r hj => hF.uniq j k x r s.p hj (by rw [List.getElem?_set, if_pos rfl, if_pos hkl])) hF.liv (by have := hh.out.cell hxA; rw [put_same] at this; exact this) (big53 hp)).mono ?_
    rintro e w' ⟨h1, h2⟩
    exact ⟨h1, ho.trans h2 (fun _ _ f => f.elim), Lib.hid (hh.out.still h2)⟩)
  have HLT := Lib.hid hlt
  have HPP := Lib.hid hp
  obtain ⟨sp, hsp⟩ : ∃ sp, s.p = sp := ⟨_, rfl⟩
  rw [hsp] at HD HPP HLT ⊢
  try rw [hsp] at HSE
  have HSP := Lib.hid hsp
  clear h hs hq hx hxA hq1 hlt hp hsn hsp
  go_enter Try.func16, Try.ntmps16
  go_wp2_with fail
  obtain ⟨w1, hw1⟩ : ∃ w1, ((w.alloc (.cells #[.int .i64 4, .int .i64 (k : Int), .int .i64 sp, .slice s.a s.m s.cap] 31)).alloc (.cells #[.bool false, .int .i64 0, .int .i64 0, .int .i64 0, .bool false] 35)) = w1 := ⟨_, rfl⟩
  have HW1 : Hid (StW w w1 4 (k : Int) sp s.a s.m s.cap) := Lib.hid (by rw [← hw1]; exact stw _ _ _ _ _ _ _)
  rw [hw1]
  clear hw1
  have x0 : w1.cell? ⟨w.heap.size, 0, none⟩ = some (.int .i64 4) := block_cell HW1.out.2.1 rfl
  have x1 : w1.cell? ⟨w.heap.size, 1, none⟩ = some (.int .i64 (k : Int)) := block_cell HW1.out.2.1 rfl
  have x2 : w1.cell? ⟨w.heap.size, 2, none⟩ = some (.int .i64 sp) := block_cell HW1.out.2.1 rfl
  have x3 : w1.cell? ⟨w.heap.size, 3, none⟩ = some (.slice s.a s.m s.cap) := block_cell HW1.out.2.1 rfl
  have hob1 := HF.out.obj
  replace hob1 := HW1.out.1.obj hob1 id
  have c0 : w1.cell? ⟨gb, 0, none⟩ = some (pp hb) := block_cell hob1 rfl
  have c1 : w1.cell? ⟨gb, 1, none⟩ = some (.slice ea X.length ec) := block_cell hob1 rfl
  clear hob1
  obtain ⟨b, off, hab, hb', hcs⟩ := (HF.out.ents.still HW1.out.1).rl.at (by omega)
  have c2 : w1.cell? ⟨b, off + k, none⟩ = some (pp x) := hcs k _ HX.out
  rw [hab] at c1
  have hbd := HF.out.ents.bound
  have hk' : (k : Int) < (X.length : Int) := by omega
  have q1 : decide ((k : Int) < 0) = false := decide_eq_false (by omega)
  have q2 : decide ((X.length : Int) ≤ (k : Int)) = false := decide_eq_false (by omega)
  clear hcs
  go_wp2_with fail
  go_quiet (fail)
  generalize hw6 : w1.drewN _ = w6
  have HW6 : Hid (StW w w6 4 (k : Int) sp s.a s.m s.cap) := Lib.hid (by rw [← hw6]; exact ⟨HW1.out.1.drewN _, HW1.out.2.1, HW1.out.2.2⟩)
  have c4 : w6.cell? ⟨b, off + k, none⟩ = some (pp x) := by rw [← hw6]; exact c2
  clear hw6 x0 x1 x2 x3 c0 c1 c2 HW1
  have x0 : w6.cell? ⟨w.heap.size, 0, none⟩ = some (.int .i64 4) := block_cell HW6.out.2.1 rfl
  have x1 : w6.cell? ⟨w.heap.size, 1, none⟩ = some (.int .i64 (k : Int)) := block_cell HW6.out.2.1 rfl
  have x2 : w6.cell? ⟨w.heap.size, 2, none⟩ = some (.int .i64 sp) := block_cell HW6.out.2.1 rfl
  have hob1 := HF.out.obj
  replace hob1 := HW6.out.1.obj hob1 id
  rw [hab] at hob1
  have c0 : w6.cell? ⟨gb, 0, none⟩ = some (pp hb) := block_cell hob1 rfl
  have c1 : w6.cell? ⟨gb, 1, none⟩ = some (.slice (some ⟨b, off, none⟩) X.length ec) := block_cell hob1 rfl
  clear hob1
  have HKK : Hid (∀ wx, Only (Fp hb A) w6 wx → (wx.cell? ⟨gb, 0, none⟩ = some (pp hb) ∧ wx.cell? ⟨gb, 1, none⟩ = some (.slice (some ⟨b, off, none⟩) X.length ec) ∧ wx.cell? ⟨b, off + k, none⟩ = some (pp x) ∧ wx.cell? ⟨w.heap.size, 1, none⟩ = some (.int .i64 (k : Int)) ∧ wx.cell? ⟨w.heap.size, 2, none⟩ = some (.int .i64 sp))) := Lib.hid (fun wx ho => by
    have hz := HW6.out.1.size
    refine ⟨(ho.cell (p := ⟨gb, 0, none⟩) (by show gb < _; omega) HF.out.gnb).trans c0, (ho.cell (p := ⟨gb, 1, none⟩) (by show gb < _; omega) HF.out.gnb).trans c1, (ho.cell (p := ⟨b, off + k, none⟩) (by have := HF.out.ents.1.lt b (by rw [hab]; rfl); show b < _; omega) (fun hf => HF.out.ena b (by rw [hab]; rfl) hf)).trans c4, (ho.cell (p := ⟨w.heap.size, 1, none⟩) (lt_of_heap HW6.out.2.1) (fun hf => by have := HF.out.heap.lt _ hf; exact absurd this (Nat.lt_irrefl _))).trans x1, (ho.cell (p := ⟨w.heap.size, 2, none⟩) (lt_of_heap HW6.out.2.1) (fun hf => by have := HF.out.heap.lt _ hf; exact absurd this (Nat.lt_irrefl _))).trans x2⟩)
  have HKS : Hid (∀ wx v0 v1 v2 v3 v4, Only (Fp hb A) w6 wx → ((((((wx.setCell ⟨w.heap.size + 1, 0, none⟩ v0).setCell ⟨w.heap.size + 1, 1, none⟩ v1).setCell ⟨w.heap.size + 1, 2, none⟩ v2).setCell ⟨w.heap.size + 1, 3, none⟩ v3).setCell ⟨w.heap.size + 1, 4, none⟩ v4).cell? ⟨gb, 0, none⟩ = some (pp hb) ∧ (((((wx.setCell ⟨w.heap.size + 1, 0, none⟩ v0).setCell ⟨w.heap.size + 1, 1, none⟩ v1).setCell ⟨w.heap.size + 1, 2, none⟩ v2).setCell ⟨w.heap.size + 1, 3, none⟩ v3).setCell ⟨w.heap.size + 1, 4, none⟩ v4).cell? ⟨gb, 1, none⟩ = some (.slice (some ⟨b, off, none⟩) X.length ec) ∧ (((((wx.setCell ⟨w.heap.size + 1, 0, none⟩ v0).setCell ⟨w.heap.size + 1, 1, none⟩ v1).setCell ⟨w.heap.size + 1, 2, none⟩ v2).setCell ⟨w.heap.size + 1, 3, none⟩ v3).setCell ⟨w.heap.size + 1, 4, none⟩ v4).cell? ⟨b, off + k, none⟩ = some (pp x) ∧ (((((wx.setCell ⟨w.heap.size + 1, 0, none⟩ v0).setCell ⟨w.heap.size + 1, 1, none⟩ v1).setCell ⟨w.heap.size + 1, 2, none⟩ v2).setCell ⟨w.heap.size + 1, 3, none⟩ v3).setCell ⟨w.heap.size + 1, 4, none⟩ v4).cell? ⟨w.heap.size, 1, none⟩ = some (.int .i64 (k : Int)) ∧ (((((wx.setCell ⟨w.heap.size + 1, 0, none⟩ v0).setCell ⟨w.heap.size + 1, 1, none⟩ v1).setCell ⟨w.heap.size + 1, 2, none⟩ v2).setCell ⟨w.heap.size + 1, 3, none⟩ v3).setCell ⟨w.heap.size + 1, 4, none⟩ v4).cell? ⟨w.heap.size, 2, none⟩ = some (.int .i64 sp))) := Lib.hid (fun wx v0 v1 v2 v3 v4 ho => by
    obtain ⟨k0, k1, k2, k3, k4⟩ := HKK.out wx ho
    have ho5 := set5_only wx (w.heap.size + 1) v0 v1 v2 v3 v4
    have hz := HW6.out.1.size
    have hz2 := ho.size
    have hz3 := lt_of_heap HW6.out.2.1
    have hbs := HF.out.ents.1.lt b (by rw [hab]; rfl)
    exact ⟨(ho5.cell (p := ⟨gb, 0, none⟩) (by show gb < _; omega) (by show ¬ gb = _; omega)).trans k0, (ho5.cell (p := ⟨gb, 1, none⟩) (by show gb < _; omega) (by show ¬ gb = _; omega)).trans k1, (ho5.cell (p := ⟨b, off + k, none⟩) (by show b < _; omega) (by show ¬ b = _; omega)).trans k2, (ho5.cell (p := ⟨w.heap.size, 1, none⟩) (by show w.heap.size < _; omega) (by show ¬ w.heap.size = _; omega)).trans k3, (ho5.cell (p := ⟨w.heap.size, 2, none⟩) (by show w.heap.size < _; omega) (by show ¬ w.heap.size = _; omega)).trans k4⟩)
  have HD6 := Lib.hid (HD.out w6 HW6.out.1)
  have HSE6 := Lib.hid (HSE.out w6 HW6.out.1)
  have HZ6 : Hid (∀ wx, Only (Fp hb A) w6 wx → wx.heap[w.heap.size + 1]? = some Z5) := Lib.hid (fun wx ho => ho.obj HW6.out.2.2 (fun hf => by have := HF.out.heap.lt _ hf; omega))
  clear HD HSE c4 hb' lx hk' q1 q2 hab
  go_wp2_with fail
  go_region_held3 (fun w' => w'.cell? ⟨gb, 0, none⟩ = some (pp hb) ∧ w'.cell? ⟨gb, 1, none⟩ = some (.slice (some ⟨b, off, none⟩) X.length ec) ∧ w'.cell? ⟨b, off + k, none⟩ = some (pp x) ∧ w'.cell? ⟨w.heap.size, 1, none⟩ = some (.int .i64 (k : Int)) ∧ w'.cell? ⟨w.heap.size, 2, none⟩ = some (.int .i64 sp)) (first | (with_reducible show (World.cell? (World.drew _) _ = _ ∧ _); with_reducible exact HKK.out _ (Only.drew (Only.refl _ _))) | (with_reducible show (World.cell? (World.setCell _ _ _) _ = _ ∧ _); with_reducible exact HKS.out w4 _ _ _ _ _ ho4) | (with_reducible show (World.cell? w4 _ = _ ∧ _); with_reducible exact HKK.out _ ho4) | (with_reducible show (World.cell? w3 _ = _ ∧ _); with_reducible exact HKK.out _ ho3) | with_reducible exact HKK.out _ (Only.refl _ _) | fail) (first
    | ((go_at_call 29; (with_reducible refine (HD6.out _ (Only.drew (Only.refl _ _))).mono ?_); rintro e w3 ⟨rfl, ho3, hh3⟩))
    | ((go_at_call 25; (with_reducible refine (HSE6.out w3 hh3 ho3).mono ?_); rintro e w4 ⟨rfl, ho4, hh4⟩; have hz4 := HZ6.out w4 ho4; have z0 : w4.cell? ⟨w.heap.size + 1, 0, none⟩ = some (.bool false) := block_cell hz4 rfl; have z1 : w4.cell? ⟨w.heap.size + 1, 1, none⟩ = some (.int .i64 0) := block_cell hz4 rfl; have z2 : w4.cell? ⟨w.heap.size + 1, 2, none⟩ = some (.int .i64 0) := block_cell hz4 rfl; have z3 : w4.cell? ⟨w.heap.size + 1, 3, none⟩ = some (.int .i64 0) := block_cell hz4 rfl; have z4 : w4.cell? ⟨w.heap.size + 1, 4, none⟩ = some (.bool false) := block_cell hz4 rfl; have zf : ∀ i, w4.frozen? ⟨w.heap.size + 1, i, none⟩ = false := fun i => block_free hz4; clear hz4)))
  all_goals
    have HO4 : Hid (Only (Fp hb A) w w4) := Lib.hid (Only.trans (S := Fp hb A) (HW6.out.1.mono (fun _ _ f => f.elim)) ho4 (fun _ _ h => h))
    have HST := Lib.hid (stfin (X := X) (s := s) (x := ⟨true, (k : Int), sp, 0, false⟩) (ea := ea) (A := A) (HF.out.low HX.out HPP.out hh4.out HO4.out) (HO4.out.mono (fun k _ hk => .inr (.inl hk))) (fun k hk => .inl hk) (HZ6.out w4 ho4) (by rw [tag_set]; have := Stepd.dec (S := tag X) (s := s) HS.out (by rw [HSN.out]) HQ.out (by rw [HSP.out]; exact HLT.out); rw [HSP.out] at this; exact this) ⟨rfl, rfl⟩)
    clear HKK HKS HD6 HSE6 HZ6 ho3 ho4 hh3 hh4 HO4
    go_wp2_with fail
    obtain ⟨w7, hw7⟩ : ∃ w7, set5 w4 (w.heap.size + 1) (.bool true) (.int .i64 (k : Int)) (.int .i64 sp) (.int .i64 0) (.bool false) = w7 := ⟨_, rfl⟩
    have h7 : StPost gb hb ea A X s w (.returned (.agg #[.bool true, .int .i64 (k : Int), .int .i64 sp, .int .i64 0, .bool false])) w7 ∧ w7.heap[w.heap.size + 1]? = some (.cells #[.bool true, .int .i64 (k : Int), .int .i64 sp, .int .i64 0, .bool false] 35 (0, 0)) := by rw [← hw7]; exact HST.out
    unfold set5 at hw7
    rw [hw7]
    have H7 := Lib.hid h7.1
    have y0 := block_cell (j := 0) h7.2 rfl
    have y1 := block_cell (j := 1) h7.2 rfl
    have y2 := block_cell (j := 2) h7.2 rfl
    have y3 := block_cell (j := 3) h7.2 rfl
    have y4 := block_cell (j := 4) h7.2 rfl
    clear h7 hw7 HST
    refine bodyPost_ret (v := .agg #[.bool true, .int .i64 (k : Int), .int .i64 sp, .int .i64 0, .bool false]) ?_ rfl ?_
    · simp [results, Try.results16, go_sem, y0, y1, y2, y3, y4]
    exact H7.out

set_option maxRecDepth 100000 in
set_option maxHeartbeats 3200000 in
theorem step4b (w : World) (gb hb : Nat) (ea : Option Addr) (ec : Nat) (X : List Ent) (A : List Nat) (pr : Nat → Nat) (h : Fh w gb hb ea ec X A pr) (s : Stp) (hs : s.op = 4) (hX : X.length < 50000) (hA : A.length < 50000) (hp : s.p.natAbs ≤ Big) (k : Nat) (q : Int) (hk : s.n = (k : Int)) (hq : (tag X)[k]? = some (some q)) (hlt : q ≤ s.p) : Calls Try.prog 16 #[pp gb, .agg #[.int .i64 4, .int .i64 s.n, .int .i64 s.p, .slice s.a s.m s.cap]] w (StPost gb hb ea A X s w) := by
  have lg := lt_of_heap h.obj
  have HF := Lib.hid h
  have HS := Lib.hid hs
  obtain ⟨x, hx⟩ := tag_at.1 hq
  have HX := Lib.hid hx
  have HQ := Lib.hid hq
  have hkl := (List.getElem?_eq_some_iff.1 hx).1
  have hxA : x ∈ A := (h.live x).2 ⟨q, List.mem_of_getElem? hx⟩
  have HXA := Lib.hid hxA
  have hq1 := h.val x q (List.mem_of_getElem? hx)
  have HQ1 := Lib.hid hq1
  have lx : x < w.heap.size := h.heap.lt x (.inr hxA)
  obtain ⟨sn, hsn⟩ : ∃ sn, s.n = sn := ⟨_, rfl⟩
  have HSN := Lib.hid hsn
  rw [hsn]
  rw [hsn] at hk
  have HK := Lib.hid hk
  subst hk
  have HD : Hid (∀ w6, Same w w6 → ∀ wx, Same w6 wx → Calls Try.prog 29 #[pp hb, pp x, .float .f64 (fl s.p)] wx (fun e w' => ∃ er, e = .returned (.tuple #[.pointer none, er]) ∧ Hid (IsErr er) ∧ Only (Fp hb A) w6 w' ∧ Hid (Same w6 w'))) := Lib.hid (fun w6 h6 wx hs => by
    refine (decreaseKey hb x (fl s.p) A pr wx (h.heap.still (h6.trans hs)) hxA (fin_fl (big53 hp)) (by omega)).mono ?_
    rintro e w' (⟨h1, h2, er, h3, h4⟩ | ⟨h1, _⟩)
    · exact ⟨er, h4, Lib.hid h3, (hs.trans h2).mono (fun _ _ f => f.elim), Lib.hid (hs.trans h2)⟩
    · rw [hq1.1, ← Int.not_le] at h1
      exact absurd ((fl_le (big53 hq1.2) (big53 hp)).2 hlt) h1)
  have HSE : Hid (∀ w6, Same w w6 → ∀ er, Hid (IsErr er) → ∀ wx, Hid (Same w6 wx) → Calls Try.prog 25 #[pp gb, .pointer none, er] wx (fun e w' => e = .returned (anv ⟨false, -1, 0, 0, false⟩) ∧ Only (Fp hb A) w6 w' ∧ Hid (Same w6 w'))) := Lib.hid (fun w6 h6 er her wx hs => by
    have hF := h.still (h6.trans hs.out)
    refine (said_err wx gb hb X.length ec ea X er her.out hF.obj hF.ents.rl (by omega)).mono ?_
    rintro e w' ⟨h1, h2⟩
    exact ⟨h1, (hs.out.trans h2).mono (fun _ _ f => f.elim), Lib.hid (hs.out.trans h2)⟩)
  have HLT := Lib.hid hlt
  have HPP := Lib.hid hp
  obtain ⟨sp, hsp⟩ : ∃ sp, s.p = sp := ⟨_, rfl⟩
  rw [hsp] at HD HPP HLT ⊢
  try rw [hsp] at HSE
  have HSP := Lib.hid hsp
  clear h hs hq hx hxA hq1 hlt hp hsn hsp
  go_enter Try.func16, Try.ntmps16
  go_wp2_with fail
  obtain ⟨w1, hw1⟩ : ∃ w1, ((w.alloc (.cells #[.int .i64 4, .int .i64 (k : Int), .int .i64 sp, .slice s.a s.m s.cap] 31)).alloc (.cells #[.bool false, .int .i64 0, .int .i64 0, .int .i64 0, .bool false] 35)) = w1 := ⟨_, rfl⟩
  have HW1 : Hid (StW w w1 4 (k : Int) sp s.a s.m s.cap) := Lib.hid (by rw [← hw1]; exact stw _ _ _ _ _ _ _)
  rw [hw1]
  clear hw1
  have x0 : w1.cell? ⟨w.heap.size, 0, none⟩ = some (.int .i64 4) := block_cell HW1.out.2.1 rfl
  have x1 : w1.cell? ⟨w.heap.size, 1, none⟩ = some (.int .i64 (k : Int)) := block_cell HW1.out.2.1 rfl
  have x2 : w1.cell? ⟨w.heap.size, 2, none⟩ = some (.int .i64 sp) := block_cell HW1.out.2.1 rfl
  have x3 : w1.cell? ⟨w.heap.size, 3, none⟩ = some (.slice s.a s.m s.cap) := block_cell HW1.out.2.1 rfl
  have hob1 := HF.out.obj
  replace hob1 := HW1.out.1.obj hob1 id
  have c0 : w1.cell? ⟨gb, 0, none⟩ = some (pp hb) := block_cell hob1 rfl
  have c1 : w1.cell? ⟨gb, 1, none⟩ = some (.slice ea X.length ec) := block_cell hob1 rfl
  clear hob1
  obtain ⟨b, off, hab, hb', hcs⟩ := (HF.out.ents.still HW1.out.1).rl.at (by omega)
  have c2 : w1.cell? ⟨b, off + k, none⟩ = some (pp x) := hcs k _ HX.out
  rw [hab] at c1
  have hbd := HF.out.ents.bound
  have hk' : (k : Int) < (X.length : Int) := by omega
  have q1 : decide ((k : Int) < 0) = false := decide_eq_false (by omega)
  have q2 : decide ((X.length : Int) ≤ (k : Int)) = false := decide_eq_false (by omega)
  clear hcs
  go_wp2_with fail
  go_quiet (fail)
  generalize hw6 : w1.drewN _ = w6
  have HW6 : Hid (StW w w6 4 (k : Int) sp s.a s.m s.cap) := Lib.hid (by rw [← hw6]; exact ⟨HW1.out.1.drewN _, HW1.out.2.1, HW1.out.2.2⟩)
  have c4 : w6.cell? ⟨b, off + k, none⟩ = some (pp x) := by rw [← hw6]; exact c2
  clear hw6 x0 x1 x2 x3 c0 c1 c2 HW1
  have x0 : w6.cell? ⟨w.heap.size, 0, none⟩ = some (.int .i64 4) := block_cell HW6.out.2.1 rfl
  have x1 : w6.cell? ⟨w.heap.size, 1, none⟩ = some (.int .i64 (k : Int)) := block_cell HW6.out.2.1 rfl
  have x2 : w6.cell? ⟨w.heap.size, 2, none⟩ = some (.int .i64 sp) := block_cell HW6.out.2.1 rfl
  have hob1 := HF.out.obj
  replace hob1 := HW6.out.1.obj hob1 id
  rw [hab] at hob1
  have c0 : w6.cell? ⟨gb, 0, none⟩ = some (pp hb) := block_cell hob1 rfl
  have c1 : w6.cell? ⟨gb, 1, none⟩ = some (.slice (some ⟨b, off, none⟩) X.length ec) := block_cell hob1 rfl
  clear hob1
  have HKK : Hid (∀ wx, Only (Fp hb A) w6 wx → (wx.cell? ⟨gb, 0, none⟩ = some (pp hb) ∧ wx.cell? ⟨gb, 1, none⟩ = some (.slice (some ⟨b, off, none⟩) X.length ec) ∧ wx.cell? ⟨b, off + k, none⟩ = some (pp x) ∧ wx.cell? ⟨w.heap.size, 1, none⟩ = some (.int .i64 (k : Int)) ∧ wx.cell? ⟨w.heap.size, 2, none⟩ = some (.int .i64 sp))) := Lib.hid (fun wx ho => by
    have hz := HW6.out.1.size
    refine ⟨(ho.cell (p := ⟨gb, 0, none⟩) (by show gb < _; omega) HF.out.gnb).trans c0, (ho.cell (p := ⟨gb, 1, none⟩) (by show gb < _; omega) HF.out.gnb).trans c1, (ho.cell (p := ⟨b, off + k, none⟩) (by have := HF.out.ents.1.lt b (by rw [hab]; rfl); show b < _; omega) (fun hf => HF.out.ena b (by rw [hab]; rfl) hf)).trans c4, (ho.cell (p := ⟨w.heap.size, 1, none⟩) (lt_of_heap HW6.out.2.1) (fun hf => by have := HF.out.heap.lt _ hf; exact absurd this (Nat.lt_irrefl _))).trans x1, (ho.cell (p := ⟨w.heap.size, 2, none⟩) (lt_of_heap HW6.out.2.1) (fun hf => by have := HF.out.heap.lt _ hf; exact absurd this (Nat.lt_irrefl _))).trans x2⟩)
  have HKS : Hid (∀ wx v0 v1 v2 v3 v4, Only (Fp hb A) w6 wx → ((((((wx.setCell ⟨w.heap.size + 1, 0, none⟩ v0).setCell ⟨w.heap.size + 1, 1, none⟩ v1).setCell ⟨w.heap.size + 1, 2, none⟩ v2).setCell ⟨w.heap.size + 1, 3, none⟩ v3).setCell ⟨w.heap.size + 1, 4, none⟩ v4).cell? ⟨gb, 0, none⟩ = some (pp hb) ∧ (((((wx.setCell ⟨w.heap.size + 1, 0, none⟩ v0).setCell ⟨w.heap.size + 1, 1, none⟩ v1).setCell ⟨w.heap.size + 1, 2, none⟩ v2).setCell ⟨w.heap.size + 1, 3, none⟩ v3).setCell ⟨w.heap.size + 1, 4, none⟩ v4).cell? ⟨gb, 1, none⟩ = some (.slice (some ⟨b, off, none⟩) X.length ec) ∧ (((((wx.setCell ⟨w.heap.size + 1, 0, none⟩ v0).setCell ⟨w.heap.size + 1, 1, none⟩ v1).setCell ⟨w.heap.size + 1, 2, none⟩ v2).setCell ⟨w.heap.size + 1, 3, none⟩ v3).setCell ⟨w.heap.size + 1, 4, none⟩ v4).cell? ⟨b, off + k, none⟩ = some (pp x) ∧ (((((wx.setCell ⟨w.heap.size + 1, 0, none⟩ v0).setCell ⟨w.heap.size + 1, 1, none⟩ v1).setCell ⟨w.heap.size + 1, 2, none⟩ v2).setCell ⟨w.heap.size + 1, 3, none⟩ v3).setCell ⟨w.heap.size + 1, 4, none⟩ v4).cell? ⟨w.heap.size, 1, none⟩ = some (.int .i64 (k : Int)) ∧ (((((wx.setCell ⟨w.heap.size + 1, 0, none⟩ v0).setCell ⟨w.heap.size + 1, 1, none⟩ v1).setCell ⟨w.heap.size + 1, 2, none⟩ v2).setCell ⟨w.heap.size + 1, 3, none⟩ v3).setCell ⟨w.heap.size + 1, 4, none⟩ v4).cell? ⟨w.heap.size, 2, none⟩ = some (.int .i64 sp))) := Lib.hid (fun wx v0 v1 v2 v3 v4 ho => by
    obtain ⟨k0, k1, k2, k3, k4⟩ := HKK.out wx ho
    have ho5 := set5_only wx (w.heap.size + 1) v0 v1 v2 v3 v4
    have hz := HW6.out.1.size
    have hz2 := ho.size
    have hz3 := lt_of_heap HW6.out.2.1
    have hbs := HF.out.ents.1.lt b (by rw [hab]; rfl)
    exact ⟨(ho5.cell (p := ⟨gb, 0, none⟩) (by show gb < _; omega) (by show ¬ gb = _; omega)).trans k0, (ho5.cell (p := ⟨gb, 1, none⟩) (by show gb < _; omega) (by show ¬ gb = _; omega)).trans k1, (ho5.cell (p := ⟨b, off + k, none⟩) (by show b < _; omega) (by show ¬ b = _; omega)).trans k2, (ho5.cell (p := ⟨w.heap.size, 1, none⟩) (by show w.heap.size < _; omega) (by show ¬ w.heap.size = _; omega)).trans k3, (ho5.cell (p := ⟨w.heap.size, 2, none⟩) (by show w.heap.size < _; omega) (by show ¬ w.heap.size = _; omega)).trans k4⟩)
  have HD6 := Lib.hid (HD.out w6 HW6.out.1)
  have HSE6 := Lib.hid (HSE.out w6 HW6.out.1)
  have HZ6 : Hid (∀ wx, Only (Fp hb A) w6 wx → wx.heap[w.heap.size + 1]? = some Z5) := Lib.hid (fun wx ho => ho.obj HW6.out.2.2 (fun hf => by have := HF.out.heap.lt _ hf; omega))
  clear HD HSE c4 hb' lx hk' q1 q2 hab
  go_wp2_with fail
  go_region_held3 (fun w' => w'.cell? ⟨gb, 0, none⟩ = some (pp hb) ∧ w'.cell? ⟨gb, 1, none⟩ = some (.slice (some ⟨b, off, none⟩) X.length ec) ∧ w'.cell? ⟨b, off + k, none⟩ = some (pp x) ∧ w'.cell? ⟨w.heap.size, 1, none⟩ = some (.int .i64 (k : Int)) ∧ w'.cell? ⟨w.heap.size, 2, none⟩ = some (.int .i64 sp)) (first | (with_reducible show (World.cell? (World.drew _) _ = _ ∧ _); with_reducible exact HKK.out _ (Only.drew (Only.refl _ _))) | (with_reducible show (World.cell? (World.setCell _ _ _) _ = _ ∧ _); with_reducible exact HKS.out w4 _ _ _ _ _ ho4) | (with_reducible show (World.cell? w4 _ = _ ∧ _); with_reducible exact HKK.out _ ho4) | (with_reducible show (World.cell? w3 _ = _ ∧ _); with_reducible exact HKK.out _ ho3) | with_reducible exact HKK.out _ (Only.refl _ _) | fail) (first
    | ((go_at_call 29; (with_reducible refine (HD6.out _ (Only.drew (Only.refl _ _))).mono ?_); rintro e w3 ⟨er, rfl, her, ho3, hs3⟩))
    | ((go_at_call 25; (with_reducible refine (HSE6.out er her w3 hs3).mono ?_); rintro e w4 ⟨rfl, ho4, hs4⟩; have hz4 := HZ6.out w4 ho4; have z0 : w4.cell? ⟨w.heap.size + 1, 0, none⟩ = some (.bool false) := block_cell hz4 rfl; have z1 : w4.cell? ⟨w.heap.size + 1, 1, none⟩ = some (.int .i64 0) := block_cell hz4 rfl; have z2 : w4.cell? ⟨w.heap.size + 1, 2, none⟩ = some (.int .i64 0) := block_cell hz4 rfl; have z3 : w4.cell? ⟨w.heap.size + 1, 3, none⟩ = some (.int .i64 0) := block_cell hz4 rfl; have z4 : w4.cell? ⟨w.heap.size + 1, 4, none⟩ = some (.bool false) := block_cell hz4 rfl; have zf : ∀ i, w4.frozen? ⟨w.heap.size + 1, i, none⟩ = false := fun i => block_free hz4; clear hz4)))
  all_goals
    have HS4 : Hid (Same w w4) := Lib.hid (HW6.out.1.trans hs4.out)
    have HST := Lib.hid (stfin (X := X) (s := s) (x := no) (HF.out.still HS4.out) (HS4.out.mono (fun _ _ f => f.elim)) (fun k hk => .inl hk) (HZ6.out w4 ho4) (.dec0 HS.out (by rw [HSN.out]) HQ.out (by rw [HSP.out]; exact HLT.out)) ⟨rfl, rfl⟩)
    clear HKK HKS HD6 HSE6 HZ6 ho3 ho4 hs3 hs4 her
    go_wp2_with fail
    obtain ⟨w7, hw7⟩ : ∃ w7, set5 w4 (w.heap.size + 1) (.bool false) (.int .i64 (-1)) (.int .i64 0) (.int .i64 0) (.bool false) = w7 := ⟨_, rfl⟩
    have h7 : StPost gb hb ea A X s w (.returned (.agg #[.bool false, .int .i64 (-1), .int .i64 0, .int .i64 0, .bool false])) w7 ∧ w7.heap[w.heap.size + 1]? = some (.cells #[.bool false, .int .i64 (-1), .int .i64 0, .int .i64 0, .bool false] 35 (0, 0)) := by rw [← hw7]; exact HST.out
    unfold set5 at hw7
    rw [hw7]
    have H7 := Lib.hid h7.1
    have y0 := block_cell (j := 0) h7.2 rfl
    have y1 := block_cell (j := 1) h7.2 rfl
    have y2 := block_cell (j := 2) h7.2 rfl
    have y3 := block_cell (j := 3) h7.2 rfl
    have y4 := block_cell (j := 4) h7.2 rfl
    clear h7 hw7 HST
    refine bodyPost_ret (v := .agg #[.bool false, .int .i64 (-1), .int .i64 0, .int .i64 0, .bool false]) ?_ rfl ?_
    · simp [results, Try.results16, go_sem, y0, y1, y2, y3, y4]
    exact H7.out

set_option maxRecDepth 100000 in
set_option maxHeartbeats 3200000 in
theorem step5 (w : World) (gb hb : Nat) (ea : Option Addr) (ec : Nat) (X : List Ent) (A : List Nat) (pr : Nat → Nat) (h : Fh w gb hb ea ec X A pr) (s : Stp) (hs : s.op = 5) (hX : X.length < 50000) (hA : A.length < 50000) (k : Nat) (q : Int) (hk : s.n = (k : Int)) (hq : (tag X)[k]? = some (some q)) : Calls Try.prog 16 #[pp gb, .agg #[.int .i64 5, .int .i64 s.n, .int .i64 s.p, .slice s.a s.m s.cap]] w (StPost gb hb ea A X s w) := by
  have lg := lt_of_heap h.obj
  have HF := Lib.hid h
  have HS := Lib.hid hs
  obtain ⟨x, hx⟩ := tag_at.1 hq
  have HX := Lib.hid hx
  have HQ := Lib.hid hq
  have hkl := (List.getElem?_eq_some_iff.1 hx).1
  have hxA : x ∈ A := (h.live x).2 ⟨q, List.mem_of_getElem? hx⟩
  have HXA := Lib.hid hxA
  have hq1 := h.val x q (List.mem_of_getElem? hx)
  have HQ1 := Lib.hid hq1
  have lx : x < w.heap.size := h.heap.lt x (.inr hxA)
  obtain ⟨sn, hsn⟩ : ∃ sn, s.n = sn := ⟨_, rfl⟩
  have HSN := Lib.hid hsn
  rw [hsn]
  rw [hsn] at hk
  have HK := Lib.hid hk
  subst hk
  have HD : Hid (∀ w6, Same w w6 → ∀ wx, Same w6 wx → Calls Try.prog 30 #[pp hb, pp x] wx (fun e w' => e = .returned .nilIface ∧ Only (Fp hb A) w6 w' ∧ Hid (HpX w' hb (A.erase x) pr ∧ Only (Fp hb A) wx w'))) := Lib.hid (fun w6 h6 wx hs => by
    refine (delete hb x A pr wx (h.heap.still (h6.trans hs)) hxA (fun u hu => ?_) (by omega)).mono ?_
    · obtain ⟨p, hp⟩ := (h.live u).1 hu
      obtain ⟨h1, h2⟩ := h.val u p hp
      rw [h1]
      exact low_lt (by unfold Big at h2; omega)
    · rintro e w' ⟨h1, h2, h3⟩
      exact ⟨h1, Only.trans (S := Fp hb A) (hs.mono (fun _ _ f => f.elim)) h3 (fun _ _ h => h), Lib.hid ⟨h2, h3⟩⟩)
  have HSE : Hid (∀ w6, Same w w6 → ∀ w3 wx, Hid (HpX w3 hb (A.erase x) pr ∧ Only (Fp hb A) w6 w3) → Same w3 wx → Calls Try.prog 25 #[pp gb, .pointer none, .nilIface] wx (fun e w' => e = .returned (anv ⟨true, -1, 0, 0, false⟩) ∧ Only (Fp hb A) w6 w' ∧ Hid (HpX w' hb (A.erase x) pr ∧ Same wx w' ∧ Same w3 w'))) := Lib.hid (fun w6 h6 w3 wx hh hs => by
    have ho := hh.out.2.trans hs (fun _ _ f => f.elim)
    have hO : Only (Fp hb A) w wx := Only.trans (S := Fp hb A) (h6.mono (fun _ _ f => f.elim)) ho (fun _ _ h => h)
    refine (said_nil wx gb hb X.length ec ea X (hO.obj h.obj h.gnb) (h.ents.keep hO h.ena).rl (by omega)).mono ?_
    rintro e w' ⟨h1, h2⟩
    exact ⟨h1, ho.trans h2 (fun _ _ f => f.elim), Lib.hid ⟨hh.out.1.still (hs.trans h2), h2, hs.trans h2⟩⟩)
  obtain ⟨sp, hsp⟩ : ∃ sp, s.p = sp := ⟨_, rfl⟩
  rw [hsp]
  clear h hs hq hx hxA hq1 hsn hsp
  go_enter Try.func16, Try.ntmps16
  go_wp2_with fail
  obtain ⟨w1, hw1⟩ : ∃ w1, ((w.alloc (.cells #[.int .i64 5, .int .i64 (k : Int), .int .i64 sp, .slice s.a s.m s.cap] 31)).alloc (.cells #[.bool false, .int .i64 0, .int .i64 0, .int .i64 0, .bool false] 35)) = w1 := ⟨_, rfl⟩
  have HW1 : Hid (StW w w1 5 (k : Int) sp s.a s.m s.cap) := Lib.hid (by rw [← hw1]; exact stw _ _ _ _ _ _ _)
  rw [hw1]
  clear hw1
  have x0 : w1.cell? ⟨w.heap.size, 0, none⟩ = some (.int .i64 5) := block_cell HW1.out.2.1 rfl
  have x1 : w1.cell? ⟨w.heap.size, 1, none⟩ = some (.int .i64 (k : Int)) := block_cell HW1.out.2.1 rfl
  have x2 : w1.cell? ⟨w.heap.size, 2, none⟩ = some (.int .i64 sp) := block_cell HW1.out.2.1 rfl
  have x3 : w1.cell? ⟨w.heap.size, 3, none⟩ = some (.slice s.a s.m s.cap) := block_cell HW1.out.2.1 rfl
  have hob1 := HF.out.obj
  replace hob1 := HW1.out.1.obj hob1 id
  have c0 : w1.cell? ⟨gb, 0, none⟩ = some (pp hb) := block_cell hob1 rfl
  have c1 : w1.cell? ⟨gb, 1, none⟩ = some (.slice ea X.length ec) := block_cell hob1 rfl
  clear hob1
  obtain ⟨b, off, hab, hb', hcs⟩ := (HF.out.ents.still HW1.out.1).rl.at (by omega)
  have c2 : w1.cell? ⟨b, off + k, none⟩ = some (pp x) := hcs k _ HX.out
  rw [hab] at c1
  have hbd := HF.out.ents.bound
  have hk' : (k : Int) < (X.length : Int) := by omega
  have q1 : decide ((k : Int) < 0) = false := decide_eq_false (by omega)
  have q2 : decide ((X.length : Int) ≤ (k : Int)) = false := decide_eq_false (by omega)
  clear hcs
  go_wp2_with fail
  go_quiet (fail)
  generalize hw6 : w1.drewN _ = w6
  have HW6 : Hid (StW w w6 5 (k : Int) sp s.a s.m s.cap) := Lib.hid (by rw [← hw6]; exact ⟨HW1.out.1.drewN _, HW1.out.2.1, HW1.out.2.2⟩)
  have c4 : w6.cell? ⟨b, off + k, none⟩ = some (pp x) := by rw [← hw6]; exact c2
  clear hw6 x0 x1 x2 x3 c0 c1 c2 HW1
  have x0 : w6.cell? ⟨w.heap.size, 0, none⟩ = some (.int .i64 5) := block_cell HW6.out.2.1 rfl
  have x1 : w6.cell? ⟨w.heap.size, 1, none⟩ = some (.int .i64 (k : Int)) := block_cell HW6.out.2.1 rfl
  have x2 : w6.cell? ⟨w.heap.size, 2, none⟩ = some (.int .i64 sp) := block_cell HW6.out.2.1 rfl
  have hob1 := HF.out.obj
  replace hob1 := HW6.out.1.obj hob1 id
  rw [hab] at hob1
  have c0 : w6.cell? ⟨gb, 0, none⟩ = some (pp hb) := block_cell hob1 rfl
  have c1 : w6.cell? ⟨gb, 1, none⟩ = some (.slice (some ⟨b, off, none⟩) X.length ec) := block_cell hob1 rfl
  clear hob1
  have HKK : Hid (∀ wx, Only (Fp hb A) w6 wx → (wx.cell? ⟨gb, 0, none⟩ = some (pp hb) ∧ wx.cell? ⟨gb, 1, none⟩ = some (.slice (some ⟨b, off, none⟩) X.length ec) ∧ wx.cell? ⟨b, off + k, none⟩ = some (pp x) ∧ wx.cell? ⟨w.heap.size, 1, none⟩ = some (.int .i64 (k : Int)) ∧ wx.cell? ⟨w.heap.size, 2, none⟩ = some (.int .i64 sp))) := Lib.hid (fun wx ho => by
    have hz := HW6.out.1.size
    refine ⟨(ho.cell (p := ⟨gb, 0, none⟩) (by show gb < _; omega) HF.out.gnb).trans c0, (ho.cell (p := ⟨gb, 1, none⟩) (by show gb < _; omega) HF.out.gnb).trans c1, (ho.cell (p := ⟨b, off + k, none⟩) (by have := HF.out.ents.1.lt b (by rw [hab]; rfl); show b < _; omega) (fun hf => HF.out.ena b (by rw [hab]; rfl) hf)).trans c4, (ho.cell (p := ⟨w.heap.size, 1, none⟩) (lt_of_heap HW6.out.2.1) (fun hf => by have := HF.out.heap.lt _ hf; exact absurd this (Nat.lt_irrefl _))).trans x1, (ho.cell (p := ⟨w.heap.size, 2, none⟩) (lt_of_heap HW6.out.2.1) (fun hf => by have := HF.out.heap.lt _ hf; exact absurd this (Nat.lt_irrefl _))).trans x2⟩)
  have HKS : Hid (∀ wx g v0 v1 v2 v3 v4, Only (Fp hb A) w6 wx → w6.heap.size ≤ g → ((((((wx.setCell ⟨g, 0, none⟩ v0).setCell ⟨g, 1, none⟩ v1).setCell ⟨g, 2, none⟩ v2).setCell ⟨g, 3, none⟩ v3).setCell ⟨g, 4, none⟩ v4).cell? ⟨gb, 0, none⟩ = some (pp hb) ∧ (((((wx.setCell ⟨g, 0, none⟩ v0).setCell ⟨g, 1, none⟩ v1).setCell ⟨g, 2, none⟩ v2).setCell ⟨g, 3, none⟩ v3).setCell ⟨g, 4, none⟩ v4).cell? ⟨gb, 1, none⟩ = some (.slice (some ⟨b, off, none⟩) X.length ec) ∧ (((((wx.setCell ⟨g, 0, none⟩ v0).setCell ⟨g, 1, none⟩ v1).setCell ⟨g, 2, none⟩ v2).setCell ⟨g, 3, none⟩ v3).setCell ⟨g, 4, none⟩ v4).cell? ⟨b, off + k, none⟩ = some (pp x) ∧ (((((wx.setCell ⟨g, 0, none⟩ v0).setCell ⟨g, 1, none⟩ v1).setCell ⟨g, 2, none⟩ v2).setCell ⟨g, 3, none⟩ v3).setCell ⟨g, 4, none⟩ v4).cell? ⟨w.heap.size, 1, none⟩ = some (.int .i64 (k : Int)) ∧ (((((wx.setCell ⟨g, 0, none⟩ v0).setCell ⟨g, 1, none⟩ v1).setCell ⟨g, 2, none⟩ v2).setCell ⟨g, 3, none⟩ v3).setCell ⟨g, 4, none⟩ v4).cell? ⟨w.heap.size, 2, none⟩ = some (.int .i64 sp))) := Lib.hid (fun wx g v0 v1 v2 v3 v4 ho hg => by
    obtain ⟨k0, k1, k2, k3, k4⟩ := HKK.out wx ho
    have ho5 := set5_only wx g v0 v1 v2 v3 v4
    have hz := HW6.out.1.size
    have hz2 := ho.size
    have hz3 := lt_of_heap HW6.out.2.1
    have hbs := HF.out.ents.1.lt b (by rw [hab]; rfl)
    exact ⟨(ho5.cell (p := ⟨gb, 0, none⟩) (by show gb < _; omega) (by show ¬ gb = _; omega)).trans k0, (ho5.cell (p := ⟨gb, 1, none⟩) (by show gb < _; omega) (by show ¬ gb = _; omega)).trans k1, (ho5.cell (p := ⟨b, off + k, none⟩) (by show b < _; omega) (by show ¬ b = _; omega)).trans k2, (ho5.cell (p := ⟨w.heap.size, 1, none⟩) (by show w.heap.size < _; omega) (by show ¬ w.heap.size = _; omega)).trans k3, (ho5.cell (p := ⟨w.heap.size, 2, none⟩) (by show w.heap.size < _; omega) (by show ¬ w.heap.size = _; omega)).trans k4⟩)
  have HD6 := Lib.hid (HD.out w6 HW6.out.1)
  have HSE6 := Lib.hid (HSE.out w6 HW6.out.1)
  have HZ6 : Hid (∀ wx, Only (Fp hb A) w6 wx → wx.heap[w.heap.size + 1]? = some Z5) := Lib.hid (fun wx ho => ho.obj HW6.out.2.2 (fun hf => by have := HF.out.heap.lt _ hf; omega))
  have HNF : Hid (∀ g, w6.heap.size ≤ g → ¬ Fp hb A g) := Lib.hid (fun g hg hf => by have := HF.out.heap.lt _ hf; have := HW6.out.1.size; omega)
  have HZA : Hid (∀ wx : World, (wx.alloc (.cells #[.bool false, .int .i64 0, .int .i64 0, .int .i64 0, .bool false] 35)).heap[wx.heap.size]? = some Z5) := Lib.hid (fun wx => heap_alloc_new wx _)
  have HZB : Hid (∀ wx : World, (wx.alloc (.cells #[.bool false, .int .i64 0, .int .i64 0, .int .i64 0, .bool false] 35)).drew.heap[wx.heap.size]? = some Z5) := Lib.hid (fun wx => heap_alloc_new wx _)
  have HFIN : Hid (∀ w4 g, Only (Fp hb A) w6 w4 → HpX w4 hb (A.erase x) pr → w4.heap[g]? = some Z5 → w6.heap.size ≤ g → (Only (Fp hb A) w6 (((((w4.setCell ⟨g, 0, none⟩ (.bool true)).setCell ⟨g, 1, none⟩ (.int .i64 (-1))).setCell ⟨g, 2, none⟩ (.int .i64 0)).setCell ⟨g, 3, none⟩ (.int .i64 0)).setCell ⟨g, 4, none⟩ (.bool false)) ∧ HpX (((((w4.setCell ⟨g, 0, none⟩ (.bool true)).setCell ⟨g, 1, none⟩ (.int .i64 (-1))).setCell ⟨g, 2, none⟩ (.int .i64 0)).setCell ⟨g, 3, none⟩ (.int .i64 0)).setCell ⟨g, 4, none⟩ (.bool false)) hb (A.erase x) pr ∧ (((((w4.setCell ⟨g, 0, none⟩ (.bool true)).setCell ⟨g, 1, none⟩ (.int .i64 (-1))).setCell ⟨g, 2, none⟩ (.int .i64 0)).setCell ⟨g, 3, none⟩ (.int .i64 0)).setCell ⟨g, 4, none⟩ (.bool false)).heap[g]? = some (.cells #[.bool true, .int .i64 (-1), .int .i64 0, .int .i64 0, .bool false] 35 (0, 0)) ∧ w6.heap.size ≤ g)) := Lib.hid (fun w4 g h1 h2 h3 h4 => by
    have h5 := set5_only w4 g (.bool true) (.int .i64 (-1)) (.int .i64 0) (.int .i64 0) (.bool false)
    exact ⟨h1.trans h5 (fun k hk e => by have : k = g := e; omega), h2.keep h5 (fun k hk e => HNF.out g h4 (by rw [← (show k = g from e)]; exact hk.imp id List.mem_of_mem_erase)), set5_obj h3, h4⟩)
  have HAB := Lib.hid hab
  clear HD HSE c4 hb' lx hk' q1 q2 hab
  go_upto_region 17 with fail
  go_cut [7] (fun y wx => ∃ g7 : Nat, y = .pointer (some ⟨g7, 0, none⟩) ∧ Hid (Only (Fp hb A) w6 wx ∧ HpX wx hb (A.erase x) pr ∧ wx.heap[g7]? = some (.cells #[.bool true, .int .i64 (-1), .int .i64 0, .int .i64 0, .bool false] 35 (0, 0)) ∧ w6.heap.size ≤ g7))
  case first =>
    go_region_held3 (fun w' => w'.cell? ⟨gb, 0, none⟩ = some (pp hb) ∧ w'.cell? ⟨gb, 1, none⟩ = some (.slice (some ⟨b, off, none⟩) X.length ec) ∧ w'.cell? ⟨b, off + k, none⟩ = some (pp x) ∧ w'.cell? ⟨w.heap.size, 1, none⟩ = some (.int .i64 (k : Int)) ∧ w'.cell? ⟨w.heap.size, 2, none⟩ = some (.int .i64 sp)) (first | with_reducible exact HKK.out _ (Only.refl _ _) | (with_reducible show (World.cell? (World.alloc w4 _) _ = _ ∧ _); with_reducible exact HKK.out _ (Only.alloc ho4 _)) | (with_reducible show (World.cell? (World.alloc w3 _) _ = _ ∧ _); with_reducible exact HKK.out _ (Only.alloc ho3 _)) | (with_reducible show (World.cell? (World.drew (World.alloc _ _)) _ = _ ∧ _); with_reducible exact HKK.out _ (Only.drew (Only.alloc (Only.refl _ _) _))) | (with_reducible show (World.cell? (World.setCell _ _ _) _ = _ ∧ _); with_reducible exact HKS.out w4 _ _ _ _ _ _ ho4 hg7) | (with_reducible show (World.cell? (World.drew _) _ = _ ∧ _); with_reducible exact HKK.out _ (Only.drew (Only.refl _ _))) | (with_reducible show (World.cell? w4 _ = _ ∧ _); with_reducible exact HKK.out _ ho4) | (with_reducible show (World.cell? w3 _ = _ ∧ _); with_reducible exact HKK.out _ ho3) | fail) (first
      | ((go_at_call 30; (with_reducible show Calls _ _ _ (World.drew (World.alloc _ _)) _); (with_reducible refine (HD6.out _ (Only.drew (Only.alloc (Only.refl _ _) _))).mono ?_); rintro e w3 ⟨rfl, ho3, hh3⟩; have hz3 : w3.heap[w6.heap.size]? = some Z5 := hh3.out.2.obj (HZB.out w6) (HNF.out _ (Nat.le_refl _)); have hg7 : w6.heap.size ≤ w6.heap.size := Nat.le_refl _))
      | ((go_at_call 30; (with_reducible show Calls _ _ _ (World.drew w6) _); (with_reducible refine (HD6.out _ (Only.drew (Only.refl _ _))).mono ?_); rintro e w3 ⟨rfl, ho3, hh3⟩; have hg7 := ho3.size))
      | ((go_at_call 25; (with_reducible show Calls _ _ _ (World.alloc _ _) _); (with_reducible refine (HSE6.out w3 _ (Lib.hid ⟨hh3.out.1, ho3⟩) (Only.alloc (Only.refl _ _) _)).mono ?_); rintro e w4 ⟨rfl, ho4, hh4⟩; have hz4 : w4.heap[w3.heap.size]? = some Z5 := hh4.out.2.1.obj (HZA.out w3) id; have u0 : w4.cell? ⟨w3.heap.size, 0, none⟩ = some (.bool false) := block_cell hz4 rfl; have u1 : w4.cell? ⟨w3.heap.size, 1, none⟩ = some (.int .i64 0) := block_cell hz4 rfl; have u2 : w4.cell? ⟨w3.heap.size, 2, none⟩ = some (.int .i64 0) := block_cell hz4 rfl; have u3 : w4.cell? ⟨w3.heap.size, 3, none⟩ = some (.int .i64 0) := block_cell hz4 rfl; have u4 : w4.cell? ⟨w3.heap.size, 4, none⟩ = some (.bool false) := block_cell hz4 rfl; have uf : ∀ i, w4.frozen? ⟨w3.heap.size, i, none⟩ = false := fun i => block_free hz4))
      | ((go_at_call 25; (with_reducible show Calls _ _ _ w3 _); (have hz3' := hz3); (with_reducible refine (HSE6.out w3 _ (Lib.hid ⟨hh3.out.1, ho3⟩) (Only.refl _ _)).mono ?_); rintro e w4 ⟨rfl, ho4, hh4⟩; have hz4 : w4.heap[w6.heap.size]? = some Z5 := hh4.out.2.1.obj hz3 id; have u0 : w4.cell? ⟨w6.heap.size, 0, none⟩ = some (.bool false) := block_cell hz4 rfl; have u1 : w4.cell? ⟨w6.heap.size, 1, none⟩ = some (.int .i64 0) := block_cell hz4 rfl; have u2 : w4.cell? ⟨w6.heap.size, 2, none⟩ = some (.int .i64 0) := block_cell hz4 rfl; have u3 : w4.cell? ⟨w6.heap.size, 3, none⟩ = some (.int .i64 0) := block_cell hz4 rfl; have u4 : w4.cell? ⟨w6.heap.size, 4, none⟩ = some (.bool false) := block_cell hz4 rfl; have uf : ∀ i, w4.frozen? ⟨w6.heap.size, i, none⟩ = false := fun i => block_free hz4))
      | ((go_at_call 25; (with_reducible show Calls _ _ _ w3 _); (with_reducible refine (HSE6.out w3 _ (Lib.hid ⟨hh3.out.1, ho3⟩) (Only.refl _ _)).mono ?_); rintro e w4 ⟨rfl, ho4, hh4⟩))
      | fail)
    all_goals
      go_wp2_with fail
      go_meet
      first
        | exact ⟨w4.heap.size, rfl, Lib.hid ⟨Only.alloc ho4 _, hh4.out.1.still ((Only.refl _ _).alloc _), heap_alloc_new w4 _, ho4.size⟩⟩
        | exact ⟨w3.heap.size, rfl, Lib.hid (HFIN.out w4 w3.heap.size ho4 hh4.out.1 hz4 hg7)⟩
        | exact ⟨w6.heap.size, rfl, Lib.hid (HFIN.out w4 w6.heap.size ho4 hh4.out.1 hz4 hg7)⟩
        | fail
  case rest =>
    obtain ⟨g7, rfl, H7⟩ := hcut
    obtain ⟨w5, hw5⟩ : ∃ w5, w5 = wc := ⟨_, rfl⟩
    rw [← hw5] at H7 ⊢
    clear hw5 HD6 HSE6 HKS HFIN HZA HZB x0 x1 x2 c0 c1
    have hO5 : Only (Fp hb A) w w5 := Only.trans (S := Fp hb A) (HW6.out.1.mono (fun _ _ f => f.elim)) H7.out.1 (fun _ _ h => h)
    have x1 := (HKK.out w5 H7.out.1).2.2.2.1
    have hob5 := hO5.obj HF.out.obj HF.out.gnb
    have HG5 : Hid (Calls Try.prog 28 #[pp gb, .int .i64 (k : Int)] w5 (GoneP ea X.length ec k X w5)) := Lib.hid (gone_at w5 gb hb X.length ec k ea X hob5 (HF.out.ents.keep hO5 HF.out.ena) (by omega) hkl)
    have HO5 := Lib.hid hO5
    clear hO5 hob5
    go_wp2_with fail
    refine HG5.out.mono ?_
    rintro e w8 ⟨rfl, hol, hO8⟩
    have hat : ∀ k, At ea k → k < w.heap.size := HF.out.ents.1.lt
    have hz6 := HW6.out.1.size
    have hb8 := hO8.obj H7.out.2.2.1 (fun hk => by have := hat _ hk; have := H7.out.2.2.2; omega)
    have v0 : w8.cell? ⟨g7, 0, none⟩ = some (.bool true) := block_cell hb8 rfl
    have v1 : w8.cell? ⟨g7, 1, none⟩ = some (.int .i64 (-1)) := block_cell hb8 rfl
    have v2 : w8.cell? ⟨g7, 2, none⟩ = some (.int .i64 0) := block_cell hb8 rfl
    have v3 : w8.cell? ⟨g7, 3, none⟩ = some (.int .i64 0) := block_cell hb8 rfl
    have v4 : w8.cell? ⟨g7, 4, none⟩ = some (.bool false) := block_cell hb8 rfl
    have hz8 := hO8.obj (HZ6.out w5 H7.out.1) (fun hk => by have := hat _ hk; omega)
    have hF8 : Fh w8 gb hb ea ec (X.set k none) (A.erase x) pr := HF.out.rem HX.out (H7.out.2.1.keep hO8 (fun k hk ha => HF.out.ena k ha (hk.imp id List.mem_of_mem_erase))) (hO8.obj (HO5.out.obj HF.out.obj HF.out.gnb) HF.out.gna) hol
    have HST := Lib.hid (stfin (X := X) (s := s) (x := ⟨true, -1, 0, 0, false⟩) (ea := ea) (A := A) hF8 ((HO5.out.mono (fun k _ hk => .inr (.inl hk))).trans hO8 (fun k _ hk => .inr (.inr hk))) (fun k hk => .inl (hk.imp id (fun h => h.imp (fun h => h.imp id List.mem_of_mem_erase) id))) hz8 (by rw [tag_set]; exact .del HS.out (by rw [HSN.out]) HQ.out) ⟨rfl, rfl⟩)
    clear hb8 hol hO8 hF8 HG5 HKK HZ6 H7 HO5 hz6 x1
    have z0 : w8.cell? ⟨w.heap.size + 1, 0, none⟩ = some (.bool false) := block_cell hz8 rfl
    have z1 : w8.cell? ⟨w.heap.size + 1, 1, none⟩ = some (.int .i64 0) := block_cell hz8 rfl
    have z2 : w8.cell? ⟨w.heap.size + 1, 2, none⟩ = some (.int .i64 0) := block_cell hz8 rfl
    have z3 : w8.cell? ⟨w.heap.size + 1, 3, none⟩ = some (.int .i64 0) := block_cell hz8 rfl
    have z4 : w8.cell? ⟨w.heap.size + 1, 4, none⟩ = some (.bool false) := block_cell hz8 rfl
    have zf : ∀ i, w8.frozen? ⟨w.heap.size + 1, i, none⟩ = false := fun i => block_free hz8
    clear hz8
    go_wp2_with fail
    obtain ⟨w7, hw7⟩ : ∃ w7, set5 w8 (w.heap.size + 1) (.bool true) (.int .i64 (-1)) (.int .i64 0) (.int .i64 0) (.bool false) = w7 := ⟨_, rfl⟩
    have h7 : StPost gb hb ea A X s w (.returned (.agg #[.bool true, .int .i64 (-1), .int .i64 0, .int .i64 0, .bool false])) w7 ∧ w7.heap[w.heap.size + 1]? = some (.cells #[.bool true, .int .i64 (-1), .int .i64 0, .int .i64 0, .bool false] 35 (0, 0)) := by rw [← hw7]; exact HST.out
    unfold set5 at hw7
    rw [hw7]
    have H7 := Lib.hid h7.1
    have y0 := block_cell (j := 0) h7.2 rfl
    have y1 := block_cell (j := 1) h7.2 rfl
    have y2 := block_cell (j := 2) h7.2 rfl
    have y3 := block_cell (j := 3) h7.2 rfl
    have y4 := block_cell (j := 4) h7.2 rfl
    clear h7 hw7 HST
    refine bodyPost_ret (v := .agg #[.bool true, .int .i64 (-1), .int .i64 0, .int .i64 0, .bool false]) ?_ rfl ?_
    · simp [results, Try.results16, go_sem, y0, y1, y2, y3, y4]
    exact H7.out
end Go.Proofs.Ytpddddjfjmipfaa.fh

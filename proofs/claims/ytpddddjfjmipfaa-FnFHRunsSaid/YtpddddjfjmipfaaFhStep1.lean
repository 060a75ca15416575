/-
  Steps on impl's heap: the walks. Printed by gen_step.py.
-/
import Derived.Test.YtpddddjfjmipfaaFhStep
import Derived.BigQuiet
namespace Go.Proofs.Ytpddddjfjmipfaa.fh
open Go.RowKit Go.Proofs.Ytpddddjfjmipfaa.base Go.Proofs.Ytpddddjfjmipfaa.heap Go.Proofs.Ytpddddjfjmipfaa.rows Go.Proofs.Ytpddddjfjmipfaa.flt
set_option linter.unusedVariables false

set_option maxRecDepth 100000 in
set_option maxHeartbeats 1600000 in
theorem step1 (w : World) (gb hb : Nat) (ea : Option Addr) (ec : Nat) (X : List Ent) (A : List Nat) (pr : Nat → Nat) (h : Fh w gb hb ea ec X A pr) (s : Stp) (hs : s.op = 1) (hp : s.p.natAbs ≤ Big) (hX : X.length < 50000) (hA : A.length < 50000) :
    Calls Try.prog 16 #[pp gb, .agg #[.int .i64 1, .int .i64 s.n, .int .i64 s.p, .slice s.a s.m s.cap]] w (StPost gb hb ea A X s w) := by
  have c0 : w.cell? ⟨gb, 0, none⟩ = some (pp hb) := block_cell h.obj rfl
  have lg := lt_of_heap h.obj
  have HE : Hid (∀ wx, Same w wx → wx.heap[w.heap.size + 1]? = some Z5 → Calls Try.prog 24 #[pp hb, .float .f64 (fl s.p)] wx (EnQ hb (w.heap.size + 1) A pr (fl s.p) w)) := Lib.hid (fun wx hs hz => by
    refine (enqueue hb A pr (fl s.p) wx (h.heap.still hs) (fin_fl (big53 hp)) (by omega)).mono ?_
    rintro e w3 ⟨b, he, h1, h2, h3⟩
    have h4 := lt_of_heap hz
    refine ⟨b, he, Lib.hid ⟨by omega, by omega, h2, Only.trans (S := Fp hb A) (hs.mono (fun _ _ f => f.elim)) h3 (fun _ _ h => h), h3.obj hz (fun hf => ?_)⟩⟩
    have := h.heap.lt _ hf
    omega)
  have HF := Lib.hid h
  have HPB := Lib.hid hp
  have HS := Lib.hid hs
  obtain ⟨sp, hsp⟩ : ∃ sp, s.p = sp := ⟨_, rfl⟩
  have HSP := Lib.hid hsp
  rw [hsp] at HE HPB
  rw [hsp]
  clear h hs hp hsp
  go_enter Try.func16, Try.ntmps16
  go_wp2_with fail
  go_region_law (first | (go_simp; go_at_call 24; refine (HE.out _ (by repeat (first | exact Only.refl _ _ | apply Only.alloc | apply Only.drew | apply Only.drewN)) (by exact heap_alloc_new' _ _ _ (by simp))).mono ?_; rintro e w3 ⟨b, rfl, H3⟩))
  all_goals
    have hob3 := H3.out.2.2.2.1.obj HF.out.obj HF.out.gnb
    have d0 : w3.cell? ⟨gb, 0, none⟩ = some (pp hb) := block_cell hob3 rfl
    have d1 : w3.cell? ⟨gb, 1, none⟩ = some (.slice ea X.length ec) := block_cell hob3 rfl
    have HOW : Hid (OL 45 pe w3 ea X.length ec X) := Lib.hid (HF.out.ents.keep H3.out.2.2.2.1 (fun k hk => HF.out.ena k hk))
    have hbe := HF.out.ents.bound
    have lg3 := lt_of_heap hob3
    have HOB3 := Lib.hid hob3
    clear hob3
    go_wp2_with (at_builtin; refine wpList_append (X.length + 1) (X.map pe ++ [pp b]) rfl _ _ _ _ rfl slEnt rfl (HOW.out.1.keep (S := fun _ => False) (by repeat (first | exact Only.refl _ _ | apply Only.alloc | apply Only.drew)) (fun _ _ => id)) rfl (Src.row (size := 1) (cs := #[pp b]) (t := 45) (fr := (0, 0)) Try.underlying52 (by exact heap_alloc_new _ _) 1 1 rfl (by simp [Value.oneCell'])) rfl rfl (by unfold maxLen; omega) (by omega) ?_)
    intro ea2 ec2 w4 hG
    have HN := Lib.hid (Fh.app HF.out HPB.out H3.out.2.1 H3.out.2.2.1 H3.out.2.2.2.1 hG)
    have hob4 : w4.heap[gb]? = some (.cells #[pp hb, .slice ea X.length ec] 54 (0, 0)) := hG.only.obj (((Only.refl (fun _ => False) w3).alloc _).obj HOB3.out id) HF.out.gna
    have d2 : w4.cell? ⟨gb, 0, none⟩ = some (pp hb) := block_cell hob4 rfl
    have d3 : w4.cell? ⟨gb, 1, none⟩ = some (.slice ea X.length ec) := block_cell hob4 rfl
    have d4 : ∀ i, w4.frozen? ⟨gb, i, none⟩ = false := fun i => block_free hob4
    have hz4 : w4.heap[w.heap.size + 1]? = some Z5 := hG.only.obj (((Only.refl (fun _ => False) w3).alloc _).obj H3.out.2.2.2.2 id) (fun hk => by have := HF.out.ents.1.lt _ hk; omega)
    obtain ⟨w5, hw5⟩ : ∃ w5, w4.setCell ⟨gb, 1, none⟩ (.slice ea2 (X.length + 1) ec2) = w5 := ⟨_, rfl⟩
    have hz5 : w5.heap[w.heap.size + 1]? = some Z5 := by rw [← hw5]; exact ((Only.refl (fun k => k = gb) w4).setCell ⟨gb, 1, none⟩ _ (fun _ => rfl)).obj hz4 (by omega)
    have HW5 := Lib.hid hw5
    rw [hw5] at HN
    have HSD : Hid (Calls Try.prog 25 #[pp gb, pp b, .nilIface] w5 (FV w5 (anv ⟨true, (X.length : Int), sp, 0, false⟩))) := Lib.hid (by
      have hF := HN.out.1
      have hr := hF.ents.rl
      have ho := hF.obj
      rw [List.length_append] at hr ho
      refine said_some w5 gb hb (X.length + 1) ec2 X.length b sp ea2 (X ++ [some (b, sp)]) ho hr (by omega) (by simp) (fun j q hj => hF.uniq j X.length b q sp hj (by simp)) hF.liv ?_ (big53 HPB.out)
      have := hF.heap.cell (u := b) (by simp)
      rw [put_same] at this
      exact this)
    have HZ5 := Lib.hid hz5
    clear hob4 hG HOW d0 d1 hw5 hz4 hz5
    go_wp2_with fail
    rw [HW5.out]
    refine HSD.out.mono ?_
    rintro e w6 ⟨rfl, hs6⟩
    have hz6 := hs6.obj HZ5.out id
    have HST := Lib.hid (stfin (X := X) (s := s) (x := ⟨true, (X.length : Int), sp, 0, false⟩) (HN.out.1.still hs6) (HN.out.2.1.trans hs6 (fun _ _ f => f.elim)) HN.out.2.2 hz6 (by
      have := Stepd.enq (S := tag X) (s := s) HS.out
      rw [HSP.out, tag_len] at this
      unfold tag at this ⊢
      rw [List.map_append]
      exact this) ⟨rfl, rfl⟩)
    have z0 : w6.cell? ⟨w.heap.size + 1, 0, none⟩ = some (.bool false) := block_cell hz6 rfl
    have z1 : w6.cell? ⟨w.heap.size + 1, 1, none⟩ = some (.int .i64 0) := block_cell hz6 rfl
    have z2 : w6.cell? ⟨w.heap.size + 1, 2, none⟩ = some (.int .i64 0) := block_cell hz6 rfl
    have z3 : w6.cell? ⟨w.heap.size + 1, 3, none⟩ = some (.int .i64 0) := block_cell hz6 rfl
    have z4 : w6.cell? ⟨w.heap.size + 1, 4, none⟩ = some (.bool false) := block_cell hz6 rfl
    have zf : ∀ i, w6.frozen? ⟨w.heap.size + 1, i, none⟩ = false := fun i => block_free hz6
    go_wp2_with fail
    obtain ⟨w7, hw7⟩ : ∃ w7, set5 w6 (w.heap.size + 1) (.bool true) (.int .i64 (X.length : Int)) (.int .i64 sp) (.int .i64 0) (.bool false) = w7 := ⟨_, rfl⟩
    have h7 : StPost gb hb ea A X s w (.returned (.agg #[.bool true, .int .i64 (X.length : Int), .int .i64 sp, .int .i64 0, .bool false])) w7 ∧ w7.heap[w.heap.size + 1]? = some (.cells #[.bool true, .int .i64 (X.length : Int), .int .i64 sp, .int .i64 0, .bool false] 35 (0, 0)) := by rw [← hw7]; exact HST.out
    unfold set5 at hw7
    rw [hw7]
    have H7 := Lib.hid h7.1
    have y0 := block_cell (j := 0) h7.2 rfl
    have y1 := block_cell (j := 1) h7.2 rfl
    have y2 := block_cell (j := 2) h7.2 rfl
    have y3 := block_cell (j := 3) h7.2 rfl
    have y4 := block_cell (j := 4) h7.2 rfl
    clear h7 hw7 HST
    refine bodyPost_ret (v := .agg #[.bool true, .int .i64 (X.length : Int), .int .i64 sp, .int .i64 0, .bool false]) ?_ rfl ?_
    · simp [results, Try.results16, go_sem, y0, y1, y2, y3, y4]
    exact H7.out

set_option maxRecDepth 100000 in
set_option maxHeartbeats 3200000 in
theorem step2 (w : World) (gb hb : Nat) (ea : Option Addr) (ec : Nat) (X : List Ent) (A : List Nat) (pr : Nat → Nat) (h : Fh w gb hb ea ec X A pr) (s : Stp) (hs : s.op = 2) (hX : X.length < 50000) : Calls Try.prog 16 #[pp gb, .agg #[.int .i64 2, .int .i64 s.n, .int .i64 s.p, .slice s.a s.m s.cap]] w (StPost gb hb ea A X s w) := by
  have c0 : w.cell? ⟨gb, 0, none⟩ = some (pp hb) := block_cell h.obj rfl
  have lg := lt_of_heap h.obj
  have HMI : Hid (∀ wx, Same w wx → Calls Try.prog 26 #[pp hb] wx (MiP A pr wx)) := Lib.hid (fun wx hs => min hb A pr wx (h.heap.still hs))
  have HF := Lib.hid h
  have HS := Lib.hid hs
  clear h hs
  go_enter Try.func16, Try.ntmps16
  go_wp2_with (go_at_call 26; refine (HMI.out _ (by repeat (first | exact Only.refl _ _ | apply Only.alloc | apply Only.drew | apply Only.drewN))).mono ?_)
  rintro e w1 ⟨hw, hor⟩
  have HW1 : Hid (StW w w1 2 s.n s.p s.a s.m s.cap) := Lib.hid (by rw [← hw]; exact stw _ _ _ _ _ _ _)
  clear hw HMI c0
  rcases hor with ⟨rfl, er, _, her, rfl⟩ | ⟨m, hm, hle, rfl⟩
  · have HSD : Hid (Calls Try.prog 25 #[pp gb, .pointer none, er] w1 (FV w1 (anv ⟨false, -1, 0, 0, false⟩))) := Lib.hid (by
      have hF := HF.out.still HW1.out.1
      exact said_err w1 gb hb X.length ec ea X er her hF.obj hF.ents.rl (by omega))
    clear her
    go_wp2_with fail
    refine HSD.out.mono ?_
    rintro e w6 ⟨rfl, hs6⟩
    have hz6 := hs6.obj HW1.out.2.2 id
    have HST := Lib.hid (stfin (X := X) (s := s) (x := no) (HF.out.still (HW1.out.1.trans hs6)) ((HW1.out.1.trans hs6).mono (fun _ _ f => f.elim)) (fun k hk => .inl hk) hz6 (.min0 (.inl HS.out) HF.out.isNone) ⟨rfl, rfl⟩)
    have z0 : w6.cell? ⟨w.heap.size + 1, 0, none⟩ = some (.bool false) := block_cell hz6 rfl
    have z1 : w6.cell? ⟨w.heap.size + 1, 1, none⟩ = some (.int .i64 0) := block_cell hz6 rfl
    have z2 : w6.cell? ⟨w.heap.size + 1, 2, none⟩ = some (.int .i64 0) := block_cell hz6 rfl
    have z3 : w6.cell? ⟨w.heap.size + 1, 3, none⟩ = some (.int .i64 0) := block_cell hz6 rfl
    have z4 : w6.cell? ⟨w.heap.size + 1, 4, none⟩ = some (.bool false) := block_cell hz6 rfl
    have zf : ∀ i, w6.frozen? ⟨w.heap.size + 1, i, none⟩ = false := fun i => block_free hz6
    clear hz6
    go_wp2_with fail
    obtain ⟨w7, hw7⟩ : ∃ w7, set5 w6 (w.heap.size + 1) (.bool false) (.int .i64 (-1)) (.int .i64 0) (.int .i64 0) (.bool false) = w7 := ⟨_, rfl⟩
    have h7 : StPost gb hb ea [] X s w (.returned (.agg #[.bool false, .int .i64 (-1), .int .i64 0, .int .i64 0, .bool false])) w7 ∧ w7.heap[w.heap.size + 1]? = some (.cells #[.bool false, .int .i64 (-1), .int .i64 0, .int .i64 0, .bool false] 35 (0, 0)) := by rw [← hw7]; exact HST.out
    unfold set5 at hw7
    rw [hw7]
    have H7 := Lib.hid h7.1
    have y0 := block_cell (j := 0) h7.2 rfl
    have y1 := block_cell (j := 1) h7.2 rfl
    have y2 := block_cell (j := 2) h7.2 rfl
    have y3 := block_cell (j := 3) h7.2 rfl
    have y4 := block_cell (j := 4) h7.2 rfl
    clear h7 hw7 HST
    refine bodyPost_ret (v := .agg #[.bool false, .int .i64 (-1), .int .i64 0, .int .i64 0, .bool false]) ?_ rfl ?_
    · simp [results, Try.results16, go_sem, y0, y1, y2, y3, y4]
    exact H7.out
  · obtain ⟨i, p, hi, hl, hp, hpr⟩ := HF.out.lst hm hle
    have HSD : Hid (Calls Try.prog 25 #[pp gb, pp m, .nilIface] w1 (FV w1 (anv ⟨true, (i : Int), p, 0, false⟩))) := Lib.hid (by
      have hF := HF.out.still HW1.out.1
      exact said_some w1 gb hb X.length ec i m p ea X hF.obj hF.ents.rl (by omega) hi (fun j q hj => hF.uniq j i m q p hj hi) hF.liv (by rw [← hpr]; exact hF.heap.cell hm) (big53 hp))
    have HL := Lib.hid hl
    clear hi hl hp hpr hm hle
    go_wp2_with fail
    refine HSD.out.mono ?_
    rintro e w6 ⟨rfl, hs6⟩
    have hz6 := hs6.obj HW1.out.2.2 id
    have HST := Lib.hid (stfin (X := X) (s := s) (x := ⟨true, (i : Int), p, 0, false⟩) (HF.out.still (HW1.out.1.trans hs6)) ((HW1.out.1.trans hs6).mono (fun _ _ f => f.elim)) (fun k hk => .inl hk) hz6 (.min HS.out HL.out) ⟨rfl, rfl⟩)
    have z0 : w6.cell? ⟨w.heap.size + 1, 0, none⟩ = some (.bool false) := block_cell hz6 rfl
    have z1 : w6.cell? ⟨w.heap.size + 1, 1, none⟩ = some (.int .i64 0) := block_cell hz6 rfl
    have z2 : w6.cell? ⟨w.heap.size + 1, 2, none⟩ = some (.int .i64 0) := block_cell hz6 rfl
    have z3 : w6.cell? ⟨w.heap.size + 1, 3, none⟩ = some (.int .i64 0) := block_cell hz6 rfl
    have z4 : w6.cell? ⟨w.heap.size + 1, 4, none⟩ = some (.bool false) := block_cell hz6 rfl
    have zf : ∀ i, w6.frozen? ⟨w.heap.size + 1, i, none⟩ = false := fun i => block_free hz6
    clear hz6
    go_wp2_with fail
    obtain ⟨w7, hw7⟩ : ∃ w7, set5 w6 (w.heap.size + 1) (.bool true) (.int .i64 (i : Int)) (.int .i64 p) (.int .i64 0) (.bool false) = w7 := ⟨_, rfl⟩
    have h7 : StPost gb hb ea A X s w (.returned (.agg #[.bool true, .int .i64 (i : Int), .int .i64 p, .int .i64 0, .bool false])) w7 ∧ w7.heap[w.heap.size + 1]? = some (.cells #[.bool true, .int .i64 (i : Int), .int .i64 p, .int .i64 0, .bool false] 35 (0, 0)) := by rw [← hw7]; exact HST.out
    unfold set5 at hw7
    rw [hw7]
    have H7 := Lib.hid h7.1
    have y0 := block_cell (j := 0) h7.2 rfl
    have y1 := block_cell (j := 1) h7.2 rfl
    have y2 := block_cell (j := 2) h7.2 rfl
    have y3 := block_cell (j := 3) h7.2 rfl
    have y4 := block_cell (j := 4) h7.2 rfl
    clear h7 hw7 HST
    refine bodyPost_ret (v := .agg #[.bool true, .int .i64 (i : Int), .int .i64 p, .int .i64 0, .bool false]) ?_ rfl ?_
    · simp [results, Try.results16, go_sem, y0, y1, y2, y3, y4]
    exact H7.out

set_option maxRecDepth 100000 in
set_option maxHeartbeats 3200000 in
theorem step3 (w : World) (gb hb : Nat) (ea : Option Addr) (ec : Nat) (X : List Ent) (A : List Nat) (pr : Nat → Nat) (h : Fh w gb hb ea ec X A pr) (s : Stp) (hs : s.op = 3) (hX : X.length < 50000) (hA : A.length < 50000) : Calls Try.prog 16 #[pp gb, .agg #[.int .i64 3, .int .i64 s.n, .int .i64 s.p, .slice s.a s.m s.cap]] w (StPost gb hb ea A X s w) := by
  have c0 : w.cell? ⟨gb, 0, none⟩ = some (pp hb) := block_cell h.obj rfl
  have lg := lt_of_heap h.obj
  have HMI : Hid (∀ wx, Same w wx → Calls Try.prog 27 #[pp hb] wx (DqP hb A pr wx)) := Lib.hid (fun wx hs => dequeue hb A pr wx (h.heap.still hs) (by omega))
  have HF := Lib.hid h
  have HS := Lib.hid hs
  clear h hs
  go_enter Try.func16, Try.ntmps16
  go_wp2_with fail
  obtain ⟨w1, hw1⟩ : ∃ w1, ((w.alloc (.cells #[.int .i64 3, .int .i64 s.n, .int .i64 s.p, .slice s.a s.m s.cap] 31)).alloc (.cells #[.bool false, .int .i64 0, .int .i64 0, .int .i64 0, .bool false] 35)) = w1 := ⟨_, rfl⟩
  have HW1 : Hid (StW w w1 3 s.n s.p s.a s.m s.cap) := Lib.hid (by rw [← hw1]; exact stw _ _ _ _ _ _ _)
  rw [hw1]
  clear hw1
  refine (HMI.out _ HW1.out.1).mono ?_
  rintro e w3 hor
  clear HMI c0
  rcases hor with ⟨rfl, rfl, er, her, rfl⟩ | ⟨m, hm, hle, rfl, hh, hO, hx6⟩
  · have HSD : Hid (Calls Try.prog 25 #[pp gb, .pointer none, er] w1 (FV w1 (anv ⟨false, -1, 0, 0, false⟩))) := Lib.hid (by
      have hF := HF.out.still HW1.out.1
      exact said_err w1 gb hb X.length ec ea X er her hF.obj hF.ents.rl (by omega))
    clear her
    go_wp2_with fail
    refine HSD.out.mono ?_
    rintro e w5 ⟨rfl, hs5⟩
    have HG : Hid (∀ wx, Calls Try.prog 28 #[pp gb, .int .i64 (-1)] wx fun e w' => e = .returned (.tuple #[]) ∧ wx = w') := Lib.hid (fun wx => gone_off wx gb)
    go_wp2_with fail
    refine (HG.out _).mono ?_
    rintro e w6 ⟨rfl, hw6⟩
    have hs6 : Same w1 w6 := by rw [← hw6]; exact hs5.alloc _
    have hb6 : w6.heap[w5.heap.size]? = some (.cells #[.bool false, .int .i64 (-1), .int .i64 0, .int .i64 0, .bool false] 35 (0, 0)) := by rw [← hw6]; exact heap_alloc_new _ _
    have x0 : w6.cell? ⟨w5.heap.size, 0, none⟩ = some (.bool false) := block_cell hb6 rfl
    have x1 : w6.cell? ⟨w5.heap.size, 1, none⟩ = some (.int .i64 (-1)) := block_cell hb6 rfl
    have x2 : w6.cell? ⟨w5.heap.size, 2, none⟩ = some (.int .i64 0) := block_cell hb6 rfl
    have x3 : w6.cell? ⟨w5.heap.size, 3, none⟩ = some (.int .i64 0) := block_cell hb6 rfl
    have x4 : w6.cell? ⟨w5.heap.size, 4, none⟩ = some (.bool false) := block_cell hb6 rfl
    have hz6 := hs6.obj HW1.out.2.2 id
    have HST := Lib.hid (stfin (X := X) (s := s) (x := no) (HF.out.still (HW1.out.1.trans hs6)) ((HW1.out.1.trans hs6).mono (fun _ _ f => f.elim)) (fun k hk => .inl hk) hz6 (.min0 (.inr HS.out) HF.out.isNone) ⟨rfl, rfl⟩)
    have z0 : w6.cell? ⟨w.heap.size + 1, 0, none⟩ = some (.bool false) := block_cell hz6 rfl
    have z1 : w6.cell? ⟨w.heap.size + 1, 1, none⟩ = some (.int .i64 0) := block_cell hz6 rfl
    have z2 : w6.cell? ⟨w.heap.size + 1, 2, none⟩ = some (.int .i64 0) := block_cell hz6 rfl
    have z3 : w6.cell? ⟨w.heap.size + 1, 3, none⟩ = some (.int .i64 0) := block_cell hz6 rfl
    have z4 : w6.cell? ⟨w.heap.size + 1, 4, none⟩ = some (.bool false) := block_cell hz6 rfl
    have zf : ∀ i, w6.frozen? ⟨w.heap.size + 1, i, none⟩ = false := fun i => block_free hz6
    clear hz6 hw6 hb6 hs5 hs6
    go_wp2_with fail
    obtain ⟨w7, hw7⟩ : ∃ w7, set5 w6 (w.heap.size + 1) (.bool false) (.int .i64 (-1)) (.int .i64 0) (.int .i64 0) (.bool false) = w7 := ⟨_, rfl⟩
    have h7 : StPost gb hb ea [] X s w (.returned (.agg #[.bool false, .int .i64 (-1), .int .i64 0, .int .i64 0, .bool false])) w7 ∧ w7.heap[w.heap.size + 1]? = some (.cells #[.bool false, .int .i64 (-1), .int .i64 0, .int .i64 0, .bool false] 35 (0, 0)) := by rw [← hw7]; exact HST.out
    unfold set5 at hw7
    rw [hw7]
    have H7 := Lib.hid h7.1
    have y0 := block_cell (j := 0) h7.2 rfl
    have y1 := block_cell (j := 1) h7.2 rfl
    have y2 := block_cell (j := 2) h7.2 rfl
    have y3 := block_cell (j := 3) h7.2 rfl
    have y4 := block_cell (j := 4) h7.2 rfl
    clear h7 hw7 HST
    refine bodyPost_ret (v := .agg #[.bool false, .int .i64 (-1), .int .i64 0, .int .i64 0, .bool false]) ?_ rfl ?_
    · simp [results, Try.results16, go_sem, y0, y1, y2, y3, y4]
    exact H7.out
  · obtain ⟨i, p, hi, hl, hp, hpr⟩ := HF.out.lst hm hle
    have HO : Hid (Only (Fp hb A) w w3) := Lib.hid (Only.trans (S := Fp hb A) (HW1.out.1.mono (fun _ _ f => f.elim)) hO (fun _ _ h => h))
    have hob3 := HO.out.obj HF.out.obj HF.out.gnb
    have hol3 := HF.out.ents.keep HO.out HF.out.ena
    have hlv : ∀ u q, some (u, q) ∈ X → Liv w3 u := fun u q hu => by
      by_cases e : u = m
      · subst e; exact hx6.liv
      · exact hh.liv (HF.out.heap.nodup.mem_erase_iff.2 ⟨e, (HF.out.live u).2 ⟨q, hu⟩⟩)
    have HSD : Hid (Calls Try.prog 25 #[pp gb, pp m, .nilIface] w3 (FV w3 (anv ⟨true, (i : Int), p, 0, false⟩))) := Lib.hid (by
      exact said_some w3 gb hb X.length ec i m p ea X hob3 hol3.rl (by omega) hi (fun j q hj => HF.out.uniq j i m q p hj hi) hlv (by rw [← hpr]; exact hx6.cell) (big53 hp))
    have HH : Hid (HpX w3 hb (A.erase m) pr ∧ w3.heap[gb]? = some (.cells #[pp hb, .slice ea X.length ec] 54 (0, 0)) ∧ OL 45 pe w3 ea X.length ec X ∧ w3.heap[w.heap.size + 1]? = some Z5) := Lib.hid ⟨hh, hob3, hol3, hO.obj HW1.out.2.2 (fun hf => by have := HF.out.heap.lt _ hf; omega)⟩
    have HI := Lib.hid hi
    have HL := Lib.hid hl
    have hil := (List.getElem?_eq_some_iff.1 hi).1
    clear hi hl hp hpr hm hle hh hO hx6 hob3 hol3 hlv
    go_wp2_with fail
    refine HSD.out.mono ?_
    rintro e w5 ⟨rfl, hs5⟩
    have HG : Hid (∀ wx, Same w3 wx → Calls Try.prog 28 #[pp gb, .int .i64 (i : Int)] wx (GoneP ea X.length ec i X wx)) := Lib.hid (fun wx hs => gone_at wx gb hb X.length ec i ea X (hs.obj HH.out.2.1 id) (HH.out.2.2.1.still hs) (by omega) hil)
    have HS5 := Lib.hid hs5
    clear hs5 HSD
    go_wp2_with fail
    refine (HG.out _ (HS5.out.alloc _)).mono ?_
    rintro e w6 ⟨rfl, hol, hO6⟩
    have hs6 : Only (At ea) w3 w6 := Only.trans (S := At ea) ((HS5.out.alloc _).mono (fun _ _ f => f.elim)) hO6 (fun _ _ h => h)
    have hat : ∀ k, At ea k → k < w.heap.size := HF.out.ents.1.lt
    have hnn : ¬ At ea w5.heap.size := fun hk => by have := hat _ hk; have := HS5.out.size; have := HO.out.size; omega
    have hb6 : w6.heap[w5.heap.size]? = some (.cells #[.bool true, .int .i64 (i : Int), .int .i64 p, .int .i64 0, .bool false] 35 (0, 0)) := hO6.obj (heap_alloc_new _ _) hnn
    have x0 : w6.cell? ⟨w5.heap.size, 0, none⟩ = some (.bool true) := block_cell hb6 rfl
    have x1 : w6.cell? ⟨w5.heap.size, 1, none⟩ = some (.int .i64 (i : Int)) := block_cell hb6 rfl
    have x2 : w6.cell? ⟨w5.heap.size, 2, none⟩ = some (.int .i64 p) := block_cell hb6 rfl
    have x3 : w6.cell? ⟨w5.heap.size, 3, none⟩ = some (.int .i64 0) := block_cell hb6 rfl
    have x4 : w6.cell? ⟨w5.heap.size, 4, none⟩ = some (.bool false) := block_cell hb6 rfl
    have hz6 := hs6.obj HH.out.2.2.2 (fun hk => by have := hat _ hk; omega)
    have hF6 : Fh w6 gb hb ea ec (X.set i none) (A.erase m) pr := HF.out.rem HI.out (HH.out.1.keep hs6 (fun k hk ha => HF.out.ena k ha (hk.imp id List.mem_of_mem_erase))) (hs6.obj HH.out.2.1 HF.out.gna) hol
    have HST := Lib.hid (stfin (X := X) (s := s) (x := ⟨true, (i : Int), p, 0, false⟩) (ea := ea) (A := A) hF6 ((HO.out.mono (fun k _ hk => .inr (.inl hk))).trans hs6 (fun k _ hk => .inr (.inr hk))) (fun k hk => .inl (hk.imp id (fun h => h.imp (fun h => h.imp id List.mem_of_mem_erase) id))) hz6 (by rw [tag_set]; exact .deq HS.out HL.out) ⟨rfl, rfl⟩)
    have z0 : w6.cell? ⟨w.heap.size + 1, 0, none⟩ = some (.bool false) := block_cell hz6 rfl
    have z1 : w6.cell? ⟨w.heap.size + 1, 1, none⟩ = some (.int .i64 0) := block_cell hz6 rfl
    have z2 : w6.cell? ⟨w.heap.size + 1, 2, none⟩ = some (.int .i64 0) := block_cell hz6 rfl
    have z3 : w6.cell? ⟨w.heap.size + 1, 3, none⟩ = some (.int .i64 0) := block_cell hz6 rfl
    have z4 : w6.cell? ⟨w.heap.size + 1, 4, none⟩ = some (.bool false) := block_cell hz6 rfl
    have zf : ∀ i, w6.frozen? ⟨w.heap.size + 1, i, none⟩ = false := fun i => block_free hz6
    clear hz6 hb6 hs6 hol hO6 hF6 HG HH HO
    go_wp2_with fail
    obtain ⟨w7, hw7⟩ : ∃ w7, set5 w6 (w.heap.size + 1) (.bool true) (.int .i64 (i : Int)) (.int .i64 p) (.int .i64 0) (.bool false) = w7 := ⟨_, rfl⟩
    have h7 : StPost gb hb ea A X s w (.returned (.agg #[.bool true, .int .i64 (i : Int), .int .i64 p, .int .i64 0, .bool false])) w7 ∧ w7.heap[w.heap.size + 1]? = some (.cells #[.bool true, .int .i64 (i : Int), .int .i64 p, .int .i64 0, .bool false] 35 (0, 0)) := by rw [← hw7]; exact HST.out
    unfold set5 at hw7
    rw [hw7]
    have H7 := Lib.hid h7.1
    have y0 := block_cell (j := 0) h7.2 rfl
    have y1 := block_cell (j := 1) h7.2 rfl
    have y2 := block_cell (j := 2) h7.2 rfl
    have y3 := block_cell (j := 3) h7.2 rfl
    have y4 := block_cell (j := 4) h7.2 rfl
    clear h7 hw7 HST
    refine bodyPost_ret (v := .agg #[.bool true, .int .i64 (i : Int), .int .i64 p, .int .i64 0, .bool false]) ?_ rfl ?_
    · simp [results, Try.results16, go_sem, y0, y1, y2, y3, y4]
    exact H7.out

set_option maxRecDepth 100000 in
set_option maxHeartbeats 3200000 in
theorem stepoff4 (w : World) (gb hb : Nat) (ea : Option Addr) (ec : Nat) (X : List Ent) (A : List Nat) (pr : Nat → Nat) (h : Fh w gb hb ea ec X A pr) (s : Stp) (hs : s.op = 4) (hX : X.length < 50000) (hn : ∀ (k : Nat) q, s.n = (k : Int) → (tag X)[k]? ≠ some (some q)) : Calls Try.prog 16 #[pp gb, .agg #[.int .i64 4, .int .i64 s.n, .int .i64 s.p, .slice s.a s.m s.cap]] w (StPost gb hb ea A X s w) := by
  have lg := lt_of_heap h.obj
  have HF := Lib.hid h
  have HS := Lib.hid hs
  have HNN := Lib.hid hn
  obtain ⟨sn, hsn⟩ : ∃ sn, s.n = sn := ⟨_, rfl⟩
  have HSN := Lib.hid hsn
  rw [hsn]
  clear h hs hsn
  go_enter Try.func16, Try.ntmps16
  go_wp2_with fail
  obtain ⟨w1, hw1⟩ : ∃ w1, ((w.alloc (.cells #[.int .i64 4, .int .i64 sn, .int .i64 s.p, .slice s.a s.m s.cap] 31)).alloc (.cells #[.bool false, .int .i64 0, .int .i64 0, .int .i64 0, .bool false] 35)) = w1 := ⟨_, rfl⟩
  have HW1 : Hid (StW w w1 4 sn s.p s.a s.m s.cap) := Lib.hid (by rw [← hw1]; exact stw _ _ _ _ _ _ _)
  rw [hw1]
  clear hw1
  have x0 : w1.cell? ⟨w.heap.size, 0, none⟩ = some (.int .i64 4) := block_cell HW1.out.2.1 rfl
  have x1 : w1.cell? ⟨w.heap.size, 1, none⟩ = some (.int .i64 sn) := block_cell HW1.out.2.1 rfl
  have x2 : w1.cell? ⟨w.heap.size, 2, none⟩ = some (.int .i64 s.p) := block_cell HW1.out.2.1 rfl
  have x3 : w1.cell? ⟨w.heap.size, 3, none⟩ = some (.slice s.a s.m s.cap) := block_cell HW1.out.2.1 rfl
  have hob1 := HF.out.obj
  replace hob1 := HW1.out.1.obj hob1 id
  have c0 : w1.cell? ⟨gb, 0, none⟩ = some (pp hb) := block_cell hob1 rfl
  have c1 : w1.cell? ⟨gb, 1, none⟩ = some (.slice ea X.length ec) := block_cell hob1 rfl
  clear hob1
  by_cases h0 : sn < 0
  · clear hn
    go_wp2_with fail
    go_quiet (fail)
    generalize hw6 : w1.drewN _ = w6
    have hs6 : Same w1 w6 := by rw [← hw6]; exact (Only.refl _ _).drewN _
    have hz6 := hs6.obj HW1.out.2.2 id
    have HST := Lib.hid (stfin (X := X) (s := s) (x := no) (HF.out.still (HW1.out.1.trans hs6)) ((HW1.out.1.trans hs6).mono (fun _ _ f => f.elim)) (fun k hk => .inl hk) hz6 (.off (.inl HS.out) HNN.out) ⟨rfl, rfl⟩)
    have z0 : w6.cell? ⟨w.heap.size + 1, 0, none⟩ = some (.bool false) := block_cell hz6 rfl
    have z1 : w6.cell? ⟨w.heap.size + 1, 1, none⟩ = some (.int .i64 0) := block_cell hz6 rfl
    have z2 : w6.cell? ⟨w.heap.size + 1, 2, none⟩ = some (.int .i64 0) := block_cell hz6 rfl
    have z3 : w6.cell? ⟨w.heap.size + 1, 3, none⟩ = some (.int .i64 0) := block_cell hz6 rfl
    have z4 : w6.cell? ⟨w.heap.size + 1, 4, none⟩ = some (.bool false) := block_cell hz6 rfl
    have zf : ∀ i, w6.frozen? ⟨w.heap.size + 1, i, none⟩ = false := fun i => block_free hz6
    clear hz6 hw6
    go_wp2_with fail
    obtain ⟨w7, hw7⟩ : ∃ w7, set5 w6 (w.heap.size + 1) (.bool false) (.int .i64 (-1)) (.int .i64 0) (.int .i64 0) (.bool false) = w7 := ⟨_, rfl⟩
    have h7 : StPost gb hb ea A X s w (.returned (.agg #[.bool false, .int .i64 (-1), .int .i64 0, .int .i64 0, .bool false])) w7 ∧ w7.heap[w.heap.size + 1]? = some (.cells #[.bool false, .int .i64 (-1), .int .i64 0, .int .i64 0, .bool false] 35 (0, 0)) := by rw [← hw7]; exact HST.out
    unfold set5 at hw7
    rw [hw7]
    have H7 := Lib.hid h7.1
    have y0 := block_cell (j := 0) h7.2 rfl
    have y1 := block_cell (j := 1) h7.2 rfl
    have y2 := block_cell (j := 2) h7.2 rfl
    have y3 := block_cell (j := 3) h7.2 rfl
    have y4 := block_cell (j := 4) h7.2 rfl
    clear h7 hw7 HST
    refine bodyPost_ret (v := .agg #[.bool false, .int .i64 (-1), .int .i64 0, .int .i64 0, .bool false]) ?_ rfl ?_
    · simp [results, Try.results16, go_sem, y0, y1, y2, y3, y4]
    exact H7.out
  · obtain ⟨k, rfl⟩ : ∃ k : Nat, sn = (k : Int) := ⟨sn.toNat, by omega⟩
    have q1 : decide ((k : Int) < 0) = false := decide_eq_false (by omega)
    by_cases hk : k < X.length
    · have hk' : (k : Int) < (X.length : Int) := by omega
      have hy : X[k]? = some none := by
        cases h9 : X[k]? with
        | none => rw [List.getElem?_eq_none_iff] at h9; omega
        | some y =>
          cases y with
          | none => rfl
          | some up => obtain ⟨u, q⟩ := up; exact absurd (tag_at.2 ⟨u, h9⟩) (hn k q HSN.out)
      obtain ⟨b, off, hab, hb', hcs⟩ := (HF.out.ents.still HW1.out.1).rl.at (by omega)
      have c2 : w1.cell? ⟨b, off + k, none⟩ = some (.pointer none) := hcs k none hy
      rw [hab] at c1
      have hbd := HF.out.ents.bound
      have q2 : decide ((X.length : Int) ≤ (k : Int)) = false := decide_eq_false (by omega)
      clear hn hy hcs hab
      go_wp2_with fail
      go_quiet (fail)
      generalize hw6 : w1.drewN _ = w6
      have hs6 : Same w1 w6 := by rw [← hw6]; exact (Only.refl _ _).drewN _
      have hz6 := hs6.obj HW1.out.2.2 id
      have HST := Lib.hid (stfin (X := X) (s := s) (x := no) (HF.out.still (HW1.out.1.trans hs6)) ((HW1.out.1.trans hs6).mono (fun _ _ f => f.elim)) (fun k hk => .inl hk) hz6 (.off (.inl HS.out) HNN.out) ⟨rfl, rfl⟩)
      have z0 : w6.cell? ⟨w.heap.size + 1, 0, none⟩ = some (.bool false) := block_cell hz6 rfl
      have z1 : w6.cell? ⟨w.heap.size + 1, 1, none⟩ = some (.int .i64 0) := block_cell hz6 rfl
      have z2 : w6.cell? ⟨w.heap.size + 1, 2, none⟩ = some (.int .i64 0) := block_cell hz6 rfl
      have z3 : w6.cell? ⟨w.heap.size + 1, 3, none⟩ = some (.int .i64 0) := block_cell hz6 rfl
      have z4 : w6.cell? ⟨w.heap.size + 1, 4, none⟩ = some (.bool false) := block_cell hz6 rfl
      have zf : ∀ i, w6.frozen? ⟨w.heap.size + 1, i, none⟩ = false := fun i => block_free hz6
      clear hz6 hw6
      go_wp2_with fail
      obtain ⟨w7, hw7⟩ : ∃ w7, set5 w6 (w.heap.size + 1) (.bool false) (.int .i64 (-1)) (.int .i64 0) (.int .i64 0) (.bool false) = w7 := ⟨_, rfl⟩
      have h7 : StPost gb hb ea A X s w (.returned (.agg #[.bool false, .int .i64 (-1), .int .i64 0, .int .i64 0, .bool false])) w7 ∧ w7.heap[w.heap.size + 1]? = some (.cells #[.bool false, .int .i64 (-1), .int .i64 0, .int .i64 0, .bool false] 35 (0, 0)) := by rw [← hw7]; exact HST.out
      unfold set5 at hw7
      rw [hw7]
      have H7 := Lib.hid h7.1
      have y0 := block_cell (j := 0) h7.2 rfl
      have y1 := block_cell (j := 1) h7.2 rfl
      have y2 := block_cell (j := 2) h7.2 rfl
      have y3 := block_cell (j := 3) h7.2 rfl
      have y4 := block_cell (j := 4) h7.2 rfl
      clear h7 hw7 HST
      refine bodyPost_ret (v := .agg #[.bool false, .int .i64 (-1), .int .i64 0, .int .i64 0, .bool false]) ?_ rfl ?_
      · simp [results, Try.results16, go_sem, y0, y1, y2, y3, y4]
      exact H7.out
    · have hk' : ¬ (k : Int) < (X.length : Int) := by omega
      have q2 : (X.length : Int) ≤ (k : Int) := by omega
      clear hn
      go_wp2_with fail
      go_quiet (fail)
      generalize hw6 : w1.drewN _ = w6
      have hs6 : Same w1 w6 := by rw [← hw6]; exact (Only.refl _ _).drewN _
      have hz6 := hs6.obj HW1.out.2.2 id
      have HST := Lib.hid (stfin (X := X) (s := s) (x := no) (HF.out.still (HW1.out.1.trans hs6)) ((HW1.out.1.trans hs6).mono (fun _ _ f => f.elim)) (fun k hk => .inl hk) hz6 (.off (.inl HS.out) HNN.out) ⟨rfl, rfl⟩)
      have z0 : w6.cell? ⟨w.heap.size + 1, 0, none⟩ = some (.bool false) := block_cell hz6 rfl
      have z1 : w6.cell? ⟨w.heap.size + 1, 1, none⟩ = some (.int .i64 0) := block_cell hz6 rfl
      have z2 : w6.cell? ⟨w.heap.size + 1, 2, none⟩ = some (.int .i64 0) := block_cell hz6 rfl
      have z3 : w6.cell? ⟨w.heap.size + 1, 3, none⟩ = some (.int .i64 0) := block_cell hz6 rfl
      have z4 : w6.cell? ⟨w.heap.size + 1, 4, none⟩ = some (.bool false) := block_cell hz6 rfl
      have zf : ∀ i, w6.frozen? ⟨w.heap.size + 1, i, none⟩ = false := fun i => block_free hz6
      clear hz6 hw6
      go_wp2_with fail
      obtain ⟨w7, hw7⟩ : ∃ w7, set5 w6 (w.heap.size + 1) (.bool false) (.int .i64 (-1)) (.int .i64 0) (.int .i64 0) (.bool false) = w7 := ⟨_, rfl⟩
      have h7 : StPost gb hb ea A X s w (.returned (.agg #[.bool false, .int .i64 (-1), .int .i64 0, .int .i64 0, .bool false])) w7 ∧ w7.heap[w.heap.size + 1]? = some (.cells #[.bool false, .int .i64 (-1), .int .i64 0, .int .i64 0, .bool false] 35 (0, 0)) := by rw [← hw7]; exact HST.out
      unfold set5 at hw7
      rw [hw7]
      have H7 := Lib.hid h7.1
      have y0 := block_cell (j := 0) h7.2 rfl
      have y1 := block_cell (j := 1) h7.2 rfl
      have y2 := block_cell (j := 2) h7.2 rfl
      have y3 := block_cell (j := 3) h7.2 rfl
      have y4 := block_cell (j := 4) h7.2 rfl
      clear h7 hw7 HST
      refine bodyPost_ret (v := .agg #[.bool false, .int .i64 (-1), .int .i64 0, .int .i64 0, .bool false]) ?_ rfl ?_
      · simp [results, Try.results16, go_sem, y0, y1, y2, y3, y4]
      exact H7.out

set_option maxRecDepth 100000 in
set_option maxHeartbeats 3200000 in
theorem stepoff5 (w : World) (gb hb : Nat) (ea : Option Addr) (ec : Nat) (X : List Ent) (A : List Nat) (pr : Nat → Nat) (h : Fh w gb hb ea ec X A pr) (s : Stp) (hs : s.op = 5) (hX : X.length < 50000) (hn : ∀ (k : Nat) q, s.n = (k : Int) → (tag X)[k]? ≠ some (some q)) : Calls Try.prog 16 #[pp gb, .agg #[.int .i64 5, .int .i64 s.n, .int .i64 s.p, .slice s.a s.m s.cap]] w (StPost gb hb ea A X s w) := by
  have lg := lt_of_heap h.obj
  have HF := Lib.hid h
  have HS := Lib.hid hs
  have HNN := Lib.hid hn
  obtain ⟨sn, hsn⟩ : ∃ sn, s.n = sn := ⟨_, rfl⟩
  have HSN := Lib.hid hsn
  rw [hsn]
  clear h hs hsn
  go_enter Try.func16, Try.ntmps16
  go_wp2_with fail
  obtain ⟨w1, hw1⟩ : ∃ w1, ((w.alloc (.cells #[.int .i64 5, .int .i64 sn, .int .i64 s.p, .slice s.a s.m s.cap] 31)).alloc (.cells #[.bool false, .int .i64 0, .int .i64 0, .int .i64 0, .bool false] 35)) = w1 := ⟨_, rfl⟩
  have HW1 : Hid (StW w w1 5 sn s.p s.a s.m s.cap) := Lib.hid (by rw [← hw1]; exact stw _ _ _ _ _ _ _)
  rw [hw1]
  clear hw1
  have x0 : w1.cell? ⟨w.heap.size, 0, none⟩ = some (.int .i64 5) := block_cell HW1.out.2.1 rfl
  have x1 : w1.cell? ⟨w.heap.size, 1, none⟩ = some (.int .i64 sn) := block_cell HW1.out.2.1 rfl
  have x2 : w1.cell? ⟨w.heap.size, 2, none⟩ = some (.int .i64 s.p) := block_cell HW1.out.2.1 rfl
  have x3 : w1.cell? ⟨w.heap.size, 3, none⟩ = some (.slice s.a s.m s.cap) := block_cell HW1.out.2.1 rfl
  have hob1 := HF.out.obj
  replace hob1 := HW1.out.1.obj hob1 id
  have c0 : w1.cell? ⟨gb, 0, none⟩ = some (pp hb) := block_cell hob1 rfl
  have c1 : w1.cell? ⟨gb, 1, none⟩ = some (.slice ea X.length ec) := block_cell hob1 rfl
  clear hob1
  by_cases h0 : sn < 0
  · clear hn
    go_wp2_with fail
    go_quiet (fail)
    generalize hw6 : w1.drewN _ = w6
    have hs6 : Same w1 w6 := by rw [← hw6]; exact (Only.refl _ _).drewN _
    have hz6 := hs6.obj HW1.out.2.2 id
    have HST := Lib.hid (stfin (X := X) (s := s) (x := no) (HF.out.still (HW1.out.1.trans hs6)) ((HW1.out.1.trans hs6).mono (fun _ _ f => f.elim)) (fun k hk => .inl hk) hz6 (.off (.inr HS.out) HNN.out) ⟨rfl, rfl⟩)
    have z0 : w6.cell? ⟨w.heap.size + 1, 0, none⟩ = some (.bool false) := block_cell hz6 rfl
    have z1 : w6.cell? ⟨w.heap.size + 1, 1, none⟩ = some (.int .i64 0) := block_cell hz6 rfl
    have z2 : w6.cell? ⟨w.heap.size + 1, 2, none⟩ = some (.int .i64 0) := block_cell hz6 rfl
    have z3 : w6.cell? ⟨w.heap.size + 1, 3, none⟩ = some (.int .i64 0) := block_cell hz6 rfl
    have z4 : w6.cell? ⟨w.heap.size + 1, 4, none⟩ = some (.bool false) := block_cell hz6 rfl
    have zf : ∀ i, w6.frozen? ⟨w.heap.size + 1, i, none⟩ = false := fun i => block_free hz6
    clear hz6 hw6
    go_wp2_with fail
    obtain ⟨w7, hw7⟩ : ∃ w7, set5 w6 (w.heap.size + 1) (.bool false) (.int .i64 (-1)) (.int .i64 0) (.int .i64 0) (.bool false) = w7 := ⟨_, rfl⟩
    have h7 : StPost gb hb ea A X s w (.returned (.agg #[.bool false, .int .i64 (-1), .int .i64 0, .int .i64 0, .bool false])) w7 ∧ w7.heap[w.heap.size + 1]? = some (.cells #[.bool false, .int .i64 (-1), .int .i64 0, .int .i64 0, .bool false] 35 (0, 0)) := by rw [← hw7]; exact HST.out
    unfold set5 at hw7
    rw [hw7]
    have H7 := Lib.hid h7.1
    have y0 := block_cell (j := 0) h7.2 rfl
    have y1 := block_cell (j := 1) h7.2 rfl
    have y2 := block_cell (j := 2) h7.2 rfl
    have y3 := block_cell (j := 3) h7.2 rfl
    have y4 := block_cell (j := 4) h7.2 rfl
    clear h7 hw7 HST
    refine bodyPost_ret (v := .agg #[.bool false, .int .i64 (-1), .int .i64 0, .int .i64 0, .bool false]) ?_ rfl ?_
    · simp [results, Try.results16, go_sem, y0, y1, y2, y3, y4]
    exact H7.out
  · obtain ⟨k, rfl⟩ : ∃ k : Nat, sn = (k : Int) := ⟨sn.toNat, by omega⟩
    have q1 : decide ((k : Int) < 0) = false := decide_eq_false (by omega)
    by_cases hk : k < X.length
    · have hk' : (k : Int) < (X.length : Int) := by omega
      have hy : X[k]? = some none := by
        cases h9 : X[k]? with
        | none => rw [List.getElem?_eq_none_iff] at h9; omega
        | some y =>
          cases y with
          | none => rfl
          | some up => obtain ⟨u, q⟩ := up; exact absurd (tag_at.2 ⟨u, h9⟩) (hn k q HSN.out)
      obtain ⟨b, off, hab, hb', hcs⟩ := (HF.out.ents.still HW1.out.1).rl.at (by omega)
      have c2 : w1.cell? ⟨b, off + k, none⟩ = some (.pointer none) := hcs k none hy
      rw [hab] at c1
      have hbd := HF.out.ents.bound
      have q2 : decide ((X.length : Int) ≤ (k : Int)) = false := decide_eq_false (by omega)
      clear hn hy hcs hab
      go_wp2_with fail
      go_quiet (fail)
      generalize hw6 : w1.drewN _ = w6
      have hs6 : Same w1 w6 := by rw [← hw6]; exact (Only.refl _ _).drewN _
      have hz6 := hs6.obj HW1.out.2.2 id
      have HST := Lib.hid (stfin (X := X) (s := s) (x := no) (HF.out.still (HW1.out.1.trans hs6)) ((HW1.out.1.trans hs6).mono (fun _ _ f => f.elim)) (fun k hk => .inl hk) hz6 (.off (.inr HS.out) HNN.out) ⟨rfl, rfl⟩)
      have z0 : w6.cell? ⟨w.heap.size + 1, 0, none⟩ = some (.bool false) := block_cell hz6 rfl
      have z1 : w6.cell? ⟨w.heap.size + 1, 1, none⟩ = some (.int .i64 0) := block_cell hz6 rfl
      have z2 : w6.cell? ⟨w.heap.size + 1, 2, none⟩ = some (.int .i64 0) := block_cell hz6 rfl
      have z3 : w6.cell? ⟨w.heap.size + 1, 3, none⟩ = some (.int .i64 0) := block_cell hz6 rfl
      have z4 : w6.cell? ⟨w.heap.size + 1, 4, none⟩ = some (.bool false) := block_cell hz6 rfl
      have zf : ∀ i, w6.frozen? ⟨w.heap.size + 1, i, none⟩ = false := fun i => block_free hz6
      clear hz6 hw6
      go_wp2_with fail
      obtain ⟨w7, hw7⟩ : ∃ w7, set5 w6 (w.heap.size + 1) (.bool false) (.int .i64 (-1)) (.int .i64 0) (.int .i64 0) (.bool false) = w7 := ⟨_, rfl⟩
      have h7 : StPost gb hb ea A X s w (.returned (.agg #[.bool false, .int .i64 (-1), .int .i64 0, .int .i64 0, .bool false])) w7 ∧ w7.heap[w.heap.size + 1]? = some (.cells #[.bool false, .int .i64 (-1), .int .i64 0, .int .i64 0, .bool false] 35 (0, 0)) := by rw [← hw7]; exact HST.out
      unfold set5 at hw7
      rw [hw7]
      have H7 := Lib.hid h7.1
      have y0 := block_cell (j := 0) h7.2 rfl
      have y1 := block_cell (j := 1) h7.2 rfl
      have y2 := block_cell (j := 2) h7.2 rfl
      have y3 := block_cell (j := 3) h7.2 rfl
      have y4 := block_cell (j := 4) h7.2 rfl
      clear h7 hw7 HST
      refine bodyPost_ret (v := .agg #[.bool false, .int .i64 (-1), .int .i64 0, .int .i64 0, .bool false]) ?_ rfl ?_
      · simp [results, Try.results16, go_sem, y0, y1, y2, y3, y4]
      exact H7.out
    · have hk' : ¬ (k : Int) < (X.length : Int) := by omega
      have q2 : (X.length : Int) ≤ (k : Int) := by omega
      clear hn
      go_wp2_with fail
      go_quiet (fail)
      generalize hw6 : w1.drewN _ = w6
      have hs6 : Same w1 w6 := by rw [← hw6]; exact (Only.refl _ _).drewN _
      have hz6 := hs6.obj HW1.out.2.2 id
      have HST := Lib.hid (stfin (X := X) (s := s) (x := no) (HF.out.still (HW1.out.1.trans hs6)) ((HW1.out.1.trans hs6).mono (fun _ _ f => f.elim)) (fun k hk => .inl hk) hz6 (.off (.inr HS.out) HNN.out) ⟨rfl, rfl⟩)
      have z0 : w6.cell? ⟨w.heap.size + 1, 0, none⟩ = some (.bool false) := block_cell hz6 rfl
      have z1 : w6.cell? ⟨w.heap.size + 1, 1, none⟩ = some (.int .i64 0) := block_cell hz6 rfl
      have z2 : w6.cell? ⟨w.heap.size + 1, 2, none⟩ = some (.int .i64 0) := block_cell hz6 rfl
      have z3 : w6.cell? ⟨w.heap.size + 1, 3, none⟩ = some (.int .i64 0) := block_cell hz6 rfl
      have z4 : w6.cell? ⟨w.heap.size + 1, 4, none⟩ = some (.bool false) := block_cell hz6 rfl
      have zf : ∀ i, w6.frozen? ⟨w.heap.size + 1, i, none⟩ = false := fun i => block_free hz6
      clear hz6 hw6
      go_wp2_with fail
      obtain ⟨w7, hw7⟩ : ∃ w7, set5 w6 (w.heap.size + 1) (.bool false) (.int .i64 (-1)) (.int .i64 0) (.int .i64 0) (.bool false) = w7 := ⟨_, rfl⟩
      have h7 : StPost gb hb ea A X s w (.returned (.agg #[.bool false, .int .i64 (-1), .int .i64 0, .int .i64 0, .bool false])) w7 ∧ w7.heap[w.heap.size + 1]? = some (.cells #[.bool false, .int .i64 (-1), .int .i64 0, .int .i64 0, .bool false] 35 (0, 0)) := by rw [← hw7]; exact HST.out
      unfold set5 at hw7
      rw [hw7]
      have H7 := Lib.hid h7.1
      have y0 := block_cell (j := 0) h7.2 rfl
      have y1 := block_cell (j := 1) h7.2 rfl
      have y2 := block_cell (j := 2) h7.2 rfl
      have y3 := block_cell (j := 3) h7.2 rfl
      have y4 := block_cell (j := 4) h7.2 rfl
      clear h7 hw7 HST
      refine bodyPost_ret (v := .agg #[.bool false, .int .i64 (-1), .int .i64 0, .int .i64 0, .bool false]) ?_ rfl ?_
      · simp [results, Try.results16, go_sem, y0, y1, y2, y3, y4]
      exact H7.out
end Go.Proofs.Ytpddddjfjmipfaa.fh

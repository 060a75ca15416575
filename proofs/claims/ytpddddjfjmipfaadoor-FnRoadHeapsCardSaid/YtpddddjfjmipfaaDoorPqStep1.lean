/-
  pqStep: Put.
-/
import Derived.Test.YtpddddjfjmipfaaDoorPqStep
namespace Go.Proofs.YtpddddjfjmipfaaDoor.pq
open Go.RowKit Go.Proofs.YtpddddjfjmipfaaDoor.base Go.Proofs.YtpddddjfjmipfaaDoor.heap Go.Proofs.YtpddddjfjmipfaaDoor.rows
set_option linter.unusedVariables false
section
variable {w : World} {ob mb : Nat} {a : Option Addr} {cap : Nat} {L : List It}

theorem Now.pre {w w1 w2 : World} {ob mb : Nat} {a a' : Option Addr} {cap' : Nat} {L' : List It} (hs : Same w w1) (h : Now w1 w2 ob mb a a' cap' L') : Now w w2 ob mb a a' cap' L' :=
  ⟨h.q, h.heap, Only.trans (S := Fp ob mb a) (hs.mono (fun _ _ h => h.elim)) h.only (fun _ _ h => h), fun k hk => (h.fresh k hk).imp id (fun h' => Nat.le_trans hs.size h')⟩
theorem Now.post {w w1 w2 : World} {ob mb g : Nat} {a a' : Option Addr} {cap' : Nat} {L' : List It} (h : Now w w1 ob mb a a' cap' L') (ho : Only (fun k => k = g) w1 w2) (hg : w.heap.size ≤ g) (hn : ¬ Fp ob mb a' g) : Now w w2 ob mb a a' cap' L' :=
  ⟨h.q.keep ho (fun k hk e => hn (by rw [← e]; exact hk)), h.heap, h.only.trans ho (fun k hk e => by omega), h.fresh⟩
theorem set4 (w : World) (g : Nat) (a b c d : Value) : Only (fun k => k = g) w ((((w.setCell ⟨g, 0, none⟩ a).setCell ⟨g, 1, none⟩ b).setCell ⟨g, 2, none⟩ c).setCell ⟨g, 3, none⟩ d) :=
  (((((Only.refl (fun k => k = g) w).setCell ⟨g, 0, none⟩ _ (fun _ => rfl)).setCell ⟨g, 1, none⟩ _ (fun _ => rfl)).setCell ⟨g, 2, none⟩ _ (fun _ => rfl)).setCell ⟨g, 3, none⟩ _ (fun _ => rfl))
/-- the elements so far -/
structure Coll (w1 wr : World) (la : Option Addr) (j lc : Nat) (R : List It) : Prop where
  row : OL 77 itv wr la j lc R
  same : Same w1 wr
  new : ∀ k, At la k → w1.heap.size ≤ k

set_option maxRecDepth 100000 in
set_option maxHeartbeats 1600000 in
theorem step1 (h : Q w ob mb a cap L) (hh : Heap L) (s : Stp) (hs : s.op = 1) (hr : RIt w s.a s.m s.cap s.R) (h0 : 1 ≤ s.m) (hm : s.m ≤ 1000) (hl : L.length + s.m < 100000) (hap : ∀ k, At s.a k → ¬ Fp ob mb a k) :
    Calls Tryd.prog 8 #[.pointer (some ⟨ob, 0, none⟩), .agg #[.int .i64 1, .int .i64 s.n, .slice s.a s.m s.cap]] w (StepPost w ob mb a L s) := by
  have HQ := Lib.hid h
  have HH := Lib.hid hh
  have HS := Lib.hid hs
  have HR := Lib.hid hr
  have HL := Lib.hid hl
  have hbd := hr.bound
  obtain ⟨sa, hsa⟩ : ∃ sa, s.a = sa := ⟨_, rfl⟩
  obtain ⟨sm, hsm⟩ : ∃ sm, s.m = sm := ⟨_, rfl⟩
  obtain ⟨sc, hsc⟩ : ∃ sc, s.cap = sc := ⟨_, rfl⟩
  rw [hsa, hsm, hsc] at HR
  rw [hsm] at HL h0 hm hbd
  rw [hsc] at hbd
  rw [hsa, hsm, hsc]
  clear h hh hs hr hl hap hsa hsm hsc
  go_enter Tryd.func8, Tryd.ntmps8
  go_wp2_with fail
  obtain ⟨w1, HW1⟩ : ∃ w1, Hid (((w.alloc (.cells #[.int .i64 1, .int .i64 s.n, .slice sa sm sc] 35)).alloc (.cells #[.slice none 0 0, .int .i64 0, .bool false, .int .i64 0] 41)) = w1) := ⟨_, Lib.hid rfl⟩
  have HS1 : Hid (Same w w1) := Lib.hid (by rw [← HW1.out]; exact ((Only.refl _ _).alloc _).alloc _)
  have HG1 : Hid (w1.heap[w.heap.size + 1]? = some (.cells #[.slice none 0 0, .int .i64 0, .bool false, .int .i64 0] 41 (0, 0))) := Lib.hid (by rw [← HW1.out]; exact heap_alloc_new' _ _ _ (by simp))
  rw [HW1.out]
  clear HW1
  go_loopw [5, 22] (fun l i wr => ∃ (j : Nat) (la : Option Addr) (lc : Nat), l = .slice la j lc ∧ i = .int .i64 (j : Int) ∧ j ≤ sm ∧ Hid (Coll w1 wr la j lc (s.R.take j))) (fun _ i _ => sm - (intOf i).toNat)
  case atStart => exact ⟨0, none, 0, rfl, rfl, Nat.zero_le _, Lib.hid ⟨by simpa using OL.nil _ itv w1, Only.refl _ _, fun k hk => hk.elim⟩⟩
  case round =>
    obtain ⟨j, la, lc, rfl, rfl, hj, HI⟩ := hrel
    have hbl := HI.out.row.bound
    by_cases hlt : j < sm
    · have hlt' : (j : Int) < (sm : Int) := by omega
      have HRJ := Lib.hid (HR.out.still (HS1.out.trans HI.out.same))
      obtain ⟨b, off, ha, hb, hc⟩ := HRJ.out.at itc_len (by omega)
      obtain ⟨⟨kx, tx⟩, hx⟩ := HRJ.out.get hlt
      have c0 : wr.cell? ⟨b, off + j * 2, none⟩ = some (.int .i64 kx) := hc j _ hx 0 _ rfl
      have c1 : wr.cell? ⟨b, off + j * 2 + 1, none⟩ = some (.int .i64 tx) := hc j _ hx 1 _ rfl
      have HX := Lib.hid hx
      clear hc hx
      subst ha
      go_wp2_with (at_builtin; refine wpList_append (j + 1) ((s.R.take j).map itv ++ [itv ⟨kx, tx⟩]) rfl _ _ _ _ rfl slI rfl (HI.out.row.1.keep (S := fun _ => False) (by repeat (first | exact Only.refl _ _ | apply Only.alloc | apply Only.drew)) (fun _ _ => id)) rfl (Src.row (size := 1) (cs := #[iw kx tx]) (t := 77) (fr := (0, 0)) Tryd.underlying63 (by exact heap_alloc_new' _ _ _ (by simp)) 1 1 rfl (by simp [Value.oneCell'])) rfl rfl (by unfold maxLen; omega) (by omega) ?_)
      intro la2 lc2 w2 hG
      have HI2 : Hid (Coll w1 w2 la2 (j + 1) lc2 (s.R.take (j + 1))) := Lib.hid (by
        have hi := HI.out
        have hO : Only (At la) wr w2 := Only.trans (S := At la) (((Only.refl (At la) wr).alloc _).alloc _) hG.only (fun _ _ h => h)
        have hsz := hi.same.size
        refine ⟨⟨?_, ?_⟩, new_only hi.same hO hi.new, fun k hk => ?_⟩
        · rw [take_snoc s.R j _ HX.out, List.map_append]
          have ho := hG.own
          first | exact ho | (rw [← List.map_take] at ho; exact ho)
        · rw [List.length_take, HR.out.2]; omega
        · rcases hG.fresh k hk with h | h
          · exact hi.new k h
          · have h3 : wr.heap.size + 1 + 1 ≤ k := by simpa using h
            omega)
      clear hG
      go_wp2_with fail
      go_roundw
      case rel => exact ⟨j + 1, la2, lc2, rfl, by go_num, by omega, HI2⟩
      case measure => simp [intOf]; omega
    · have hlt' : ¬ (j : Int) < (sm : Int) := by omega
      obtain rfl : j = sm := by omega
      have hRt : s.R.take j = s.R := List.take_of_length_le (by rw [HR.out.2]; exact Nat.le_refl _)
      rw [hRt] at HI
      have HP := Lib.hid (putQ (HQ.out.still (HS1.out.trans HI.out.same)) HH.out HI.out.row.rl (by omega) (fun k hk => HI.out.row.1.lt k hk) (fun k hk hf => by have h1 := HI.out.new k hk; have h2 := HQ.out.lt k hf; have h3 := HS1.out.size; omega) HL.out)
      clear hRt
      go_wp2_with fail
      refine HP.out.mono ?_
      rintro e w2 ⟨rfl, a', cap', L', hn, hp⟩
      have HN := Lib.hid hn
      have HPM := Lib.hid hp
      have hb2 : w2.heap[w.heap.size + 1]? = some (.cells #[.slice none 0 0, .int .i64 0, .bool false, .int .i64 0] 41 (0, 0)) := hn.only.obj (HI.out.same.obj HG1.out id) (fun hf => by have := HQ.out.lt _ hf; omega)
      have HB2 := Lib.hid hb2
      have y0 : w2.cell? ⟨w.heap.size + 1, 0, none⟩ = some (.slice none 0 0) := block_cell hb2 rfl
      have y1 : w2.cell? ⟨w.heap.size + 1, 1, none⟩ = some (.int .i64 0) := block_cell hb2 rfl
      have y2 : w2.cell? ⟨w.heap.size + 1, 2, none⟩ = some (.bool false) := block_cell hb2 rfl
      have y3 : w2.cell? ⟨w.heap.size + 1, 3, none⟩ = some (.int .i64 0) := block_cell hb2 rfl
      have z0 : w2.frozen? ⟨w.heap.size + 1, 0, none⟩ = false := block_free hb2
      have z1 : w2.frozen? ⟨w.heap.size + 1, 1, none⟩ = false := block_free hb2
      have z2 : w2.frozen? ⟨w.heap.size + 1, 2, none⟩ = false := block_free hb2
      have z3 : w2.frozen? ⟨w.heap.size + 1, 3, none⟩ = false := block_free hb2
      clear hn hp hb2 HP
      go_wp2_with fail
      refine (err0 _).mono ?_
      rintro e w3 ⟨rfl, rfl⟩
      go_wp2_with fail
      refine bodyPost_ret (v := .agg #[.slice none 0 0, .int .i64 0, .bool false, .int .i64 0]) ?_ rfl ?_
      · simp [results, Tryd.results8, go_sem, y0, y1, y2, y3]
      have hnow : Now w w2 ob mb a a' cap' L' := Now.pre (HS1.out.trans HI.out.same) HN.out
      have hnf : ¬ Fp ob mb a' (w.heap.size + 1) := fun hf => by
        have h1 := HN.out.q.lt _ hf
        have h3 := HS1.out.size
        have h4 := (Array.getElem?_eq_some_iff.1 HG1.out).1
        have h5 := HI.out.same.size
        rcases hf with h | h | h
        · have := HQ.out.lt ob (.inl rfl); omega
        · have := HQ.out.lt mb (.inr (.inl rfl)); omega
        · rcases HN.out.fresh _ h with h | h
          · have := HQ.out.lt _ (.inr (.inr h)); omega
          · omega
      exact ⟨⟨none, 0, [], 0, false, 0⟩, a', cap', L', rfl, hnow.post (set4 _ _ _ _ _ _) (by omega) hnf, .inl ⟨HS.out, HPM.out, HN.out.heap, rfl, rfl⟩, RS.nil _ _ _, fun j hj => hj.elim⟩
end
end Go.Proofs.YtpddddjfjmipfaaDoor.pq

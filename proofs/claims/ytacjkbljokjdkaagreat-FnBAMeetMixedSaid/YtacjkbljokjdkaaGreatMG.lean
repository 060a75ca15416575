/-
  What the proofs of this claim share, part 7 of 8: small laws and walks of the functions that it reaches.
-/
import Derived.Test.YtacjkbljokjdkaaGreatMF
import Derived.BigQuiet
import Derived.Deep.CutBlock
namespace Go.Proofs.YtacjkbljokjdkaaGreat.ba
open Go.RowKit Go.Proofs.YtacjkbljokjdkaaGreat.base Go.Proofs.YtacjkbljokjdkaaGreat.heap Go.Proofs.YtacjkbljokjdkaaGreat.rows Go.Proofs.YtacjkbljokjdkaaGreat.bit Go.Proofs.YtacjkbljokjdkaaGreat.bs
set_option linter.unusedVariables false
/-- an array of the specification -/
abbrev bav (d : Bool) (q : Nat) (a : Option Addr) (n c : Nat) : Value := .agg #[.bool d, .int .u64 (q : Int), .slice a n c]
set_option maxRecDepth 100000 in
set_option maxHeartbeats 1600000 in
theorem baNoShorter (d1 d2 : Bool) (q1 q2 : Nat) (a1 a2 : Option Addr) (n1 n2 c1 c2 : Nat) (w : World) : Calls Tryz.prog 17 #[bav d1 q1 a1 n1 c1, bav d2 q2 a2 n2 c2] w (FV w (.bool (decide (q1 ≤ q2)))) := by
  have hd : decide (q1 ≤ q2) = decide ((q1 : Int) ≤ (q2 : Int)) := by simp
  rw [hd]
  have HS : Hid (∀ A B : Obj, Same w ((w.alloc A).alloc B)) := Lib.hid (fun A B => ((Only.refl _ _).alloc _).alloc _)
  unfold bav
  go_enter Tryz.func17, Tryz.ntmps17
  go_wp2_with fail
  go_ret
  exact ⟨rfl, HS.out _ _⟩
theorem lt_cell {w : World} {b j : Nat} {v : Value} (h : w.cell? ⟨b, j, none⟩ = some v) : b < w.heap.size := by
  unfold World.cell? at h
  rcases Nat.lt_or_ge b w.heap.size with h1 | h1
  · exact h1
  · rw [Array.getElem?_eq_none (by simpa using h1)] at h; simp at h
theorem as_at {As : List An3} {Y Z : List Ans} {k t : Nat} {z : Ans} (h : As.map (·.an) = Y ++ Z) (hk : Y.length = k) (hz : Z[t]? = some z) : ∃ x, As[k + t]? = some x ∧ x.an = z := by
  have h1 : (As.map (·.an))[k + t]? = some z := by
    rw [h, List.getElem?_append_right (by omega), hk]
    simpa using hz
  rw [List.getElem?_map] at h1
  cases hx : As[k + t]? with
  | none => rw [hx] at h1; cases h1
  | some x => rw [hx] at h1; exact ⟨x, rfl, by simpa using h1⟩
/-- what a law's 'fits' says of two arrays; what its 'makes' makes of two lists -/
def FitsC (ft : Nat) (x y : Bool) (q1 q2 : Nat) (A B : List Nat) (f : Bool) : Prop := ∀ sa sc sb scb wx, OU wx sa A.length sc A → OU wx sb B.length scb B → Calls Tryz.prog ft #[bav x q1 sa A.length sc, bav y q2 sb B.length scb] wx (FV wx (.bool f))
def MkP (C : List Nat) (w : World) (e : Ending) (w' : World) : Prop := ∃ a c, e = .returned (.slice a C.length c) ∧ OU w' a C.length c C ∧ Same w w'
def MakesC (mk : Nat) (A B C : List Nat) : Prop := ∀ sa sc sb scb wx, OU wx sa A.length sc A → OU wx sb B.length scb B → Calls Tryz.prog mk #[.slice sa A.length sc, .slice sb B.length scb] wx (MkP C wx)
def MadeC (x : Bool) (s on : Nat) (a : Option Addr) (n c : Nat) (l : List Nat) (m q : Nat) : Prop := ∀ wx, RL uv wx a n c l → Calls Tryz.prog 20 #[.bool x, .int .u16 (s : Int), .slice a n c, .int .i64 (on : Int)] wx (MadeQ x m q on (l.take 40) wx)
theorem bool_dec (n : Nat) (b : Bool) (h : b = decide (n = 0)) : (b = true ∧ n = 0) ∨ (b = false ∧ 0 < n) := by
  by_cases h0 : n = 0
  · exact .inl ⟨by rw [h]; simp [h0], h0⟩
  · exact .inr ⟨by rw [h]; simp [h0], by omega⟩
set_option maxRecDepth 100000 in
set_option maxHeartbeats 3200000 in
theorem baTwoG (op : Nat) (x y : Bool) (s1 s2 : Nat) (a b : Option Addr) (n ca m cb : Nat) (l1 l2 L1 L2 : List Nat) (mk ft m1 q1 m2 q2 : Nat) (C : List Nat) (f : Bool) (w : World) (eg1 : ∀ args w, (callFunc mk args).run Tryz.prog w = .ok (.enter mk args) w) (eg2 : ∀ args w, (callFunc ft args).run Tryz.prog w = .ok (.enter ft args) w) (h1 : RL uv w a n ca l1) (h2 : RL uv w b m cb l2)
    (e1 : l1.take 40 = L1) (e2 : l2.take 40 = L2) (M1 : MadeC x s1 0 a n ca l1 m1 q1) (M2 : MadeC y s2 1 b m cb l2 m2 q2) (HF : FitsC ft x y q1 q2 (madeS x q1 L1) (madeS y q2 L2) f) (HK : MakesC mk (madeS x q1 L1) (madeS y q2 L2) C) (hC : C.length ≤ 1000)
    (R : f = true → ∃ Y, Y.length = L1.length + 1 + (L2.length + 1) ∧ Runs [] (madeT x m1 q1 0 L1 ++ madeT y m2 q2 1 L2 ++ twoT op) (Y ++ twoY (madeS x q1 L1) (madeS y q2 L2) C)) :
    Calls Tryz.prog 9 #[.int .i64 (op : Int), .bool x, .bool y, .agg #[.int .u16 (s1 : Int), .int .u16 (s2 : Int)], .slice a n ca, .slice b m cb, .func (Fn.func mk) #[] #[], .func (Fn.func ft) #[] #[]] w (FV w (.bool true)) := by
  have hl1 : L1.length ≤ 40 := by rw [← e1, List.length_take]; omega
  have hl2 : L2.length ≤ 40 := by rw [← e2, List.length_take]; omega
  have HM1 : Hid (∀ wx, Same w wx → Calls Tryz.prog 20 #[.bool x, .int .u16 (s1 : Int), .slice a n ca, .int .i64 0] wx (MadeQ x m1 q1 0 L1 wx)) := Lib.hid (fun wx hS => by have := M1 wx (h1.still hS); rw [e1] at this; exact this)
  have HM2 : Hid (∀ wx, Same w wx → Calls Tryz.prog 20 #[.bool y, .int .u16 (s2 : Int), .slice b m cb, .int .i64 1] wx (MadeQ y m2 q2 1 L2 wx)) := Lib.hid (fun wx hS => by have := M2 wx (h2.still hS); rw [e2] at this; exact this)
  have HFF := Lib.hid HF
  have HKK := Lib.hid HK
  have HRR := Lib.hid R
  clear h1 h2 e1 e2 M1 M2 HF HK R
  go_enter Tryz.func9, Tryz.ntmps9
  go_wp2_with (go_at_call 20; refine (HM1.out _ ?_).mono ?_)
  · exact (Only.refl _ _).alloc _
  have hbx : (w.alloc (.cells #[.int .u16 (s1 : Int), .int .u16 (s2 : Int)] 23)).heap[w.heap.size]? = _ := heap_alloc_new w _
  have hS0 : Same w (w.alloc (.cells #[.int .u16 (s1 : Int), .int .u16 (s2 : Int)] 23)) := (Only.refl _ _).alloc _
  rintro e w1 ⟨ta, tc, sa, sc, rfl, hT, hS, hs1', hf1⟩
  have hne1 : w.heap.size ≠ w1.heap.size := by have := hs1'.size; simp at this; omega
  have G1 : Hid (∀ O, (w1.alloc O).cell? ⟨w.heap.size, 1, none⟩ = some (.int .u16 (s2 : Int))) := Lib.hid (fun O => block_cell (((Only.refl (fun _ => False) w1).alloc O).obj (hs1'.obj hbx id) id) rfl)
  have HA1 : Hid (OS 40 stc 6 w1 ta (L1.length + 1) tc (madeT x m1 q1 0 L1) ∧ OU w1 sa (madeS x q1 L1).length sc (madeS x q1 L1) ∧ Same w w1 ∧ ∀ i, At ta i → w.heap.size ≤ i ∧ ¬ At sa i) := Lib.hid ⟨hT, hS, Same.trans hS0 hs1', fun i hi => ⟨by have := ((hf1 i).1 hi).1; simp at this; omega, ((hf1 i).1 hi).2⟩⟩
  obtain ⟨A, hA⟩ : ∃ A, madeS x q1 L1 = A := ⟨_, rfl⟩
  have hA1 : A.length ≤ 40 := by have := madeS_len x q1 L1; rw [hA] at this; omega
  rw [hA] at HA1 HFF HKK HRR ⊢
  obtain ⟨j1, HJ1⟩ : ∃ j1, Hid (A.length = j1) := ⟨_, Lib.hid rfl⟩
  rw [HJ1.out] at HA1 hA1 ⊢
  have g1 := G1.out (.cells #[.bool x, .int .u64 (q1 : Int), .slice sa j1 sc] 36)
  have g0 : w1.cell? ⟨w.heap.size, 1, none⟩ = some (.int .u16 (s2 : Int)) := block_cell (hs1'.obj hbx id) rfl
  clear hbx hS0 hT hS hs1' hf1 HM1 hA
  go_wp2_with (go_at_call 20; refine (HM2.out _ ?_).mono ?_)
  · exact HA1.out.2.2.1.alloc _
  have hp1 : (w1.alloc (.cells #[.bool x, .int .u64 (q1 : Int), .slice sa j1 sc] 36)).heap[w1.heap.size]? = _ := heap_alloc_new w1 _
  have hS0 : Same w1 (w1.alloc (.cells #[.bool x, .int .u64 (q1 : Int), .slice sa j1 sc] 36)) := (Only.refl _ _).alloc _
  rintro e w2 ⟨tb, tcb, sb, scb, rfl, hT, hS, hs2', hf2⟩
  obtain ⟨B, hB⟩ : ∃ B, madeS y q2 L2 = B := ⟨_, rfl⟩
  have hB1 : B.length ≤ 40 := by have := madeS_len y q2 L2; rw [hB] at this; omega
  rw [hB] at HFF HKK HRR hS ⊢
  obtain ⟨j2, HJ2⟩ : ∃ j2, Hid (B.length = j2) := ⟨_, Lib.hid rfl⟩
  rw [HJ2.out] at hS hB1 ⊢
  have hS12 : Same w1 w2 := Same.trans hS0 hs2'
  obtain ⟨p1, hpp1⟩ : ∃ p1, w1.heap.size = p1 := ⟨_, rfl⟩
  have HA2 : Hid (OS 40 stc 6 w2 tb (L2.length + 1) tcb (madeT y m2 q2 1 L2) ∧ OU w2 sb j2 scb B ∧ Same w1 w2 ∧ w2.heap[p1]? = some (.cells #[.bool x, .int .u64 (q1 : Int), .slice sa j1 sc] 36 (0, 0)) ∧ (∀ i, At tb i → w1.heap.size ≤ i ∧ ¬ At sb i) ∧ ∀ i, At sb i → w1.heap.size ≤ i) := Lib.hid ⟨hT, hS, hS12, by rw [← hpp1]; exact hs2'.obj hp1 id, fun i hi => ⟨by have := ((hf2 i).1 hi).1; simp at this; omega, ((hf2 i).1 hi).2⟩, fun i hi => by have := (hf2 i).2 hi; simp at this; omega⟩
  rw [hpp1]
  have HW3 : Hid ((w2.alloc (.cells #[.bool y, .int .u64 (q2 : Int), .slice sb j2 scb] 36)).heap[p1]? = some (.cells #[.bool x, .int .u64 (q1 : Int), .slice sa j1 sc] 36 (0, 0))) := Lib.hid (((Only.refl (fun _ => False) w2).alloc _).obj HA2.out.2.2.2.1 id)
  have c0 : (w2.alloc (.cells #[.bool y, .int .u64 (q2 : Int), .slice sb j2 scb] 36)).cell? ⟨p1, 0, none⟩ = some (.bool x) := block_cell HW3.out rfl
  have c1 : (w2.alloc (.cells #[.bool y, .int .u64 (q2 : Int), .slice sb j2 scb] 36)).cell? ⟨p1, 1, none⟩ = some (.int .u64 (q1 : Int)) := block_cell HW3.out rfl
  have c2 : (w2.alloc (.cells #[.bool y, .int .u64 (q2 : Int), .slice sb j2 scb] 36)).cell? ⟨p1, 2, none⟩ = some (.slice sa j1 sc) := block_cell HW3.out rfl
  have HFT : Hid (∀ wx, Same w2 wx → Calls Tryz.prog ft #[.agg #[.bool x, .int .u64 (q1 : Int), .slice sa j1 sc], .agg #[.bool y, .int .u64 (q2 : Int), .slice sb j2 scb]] wx (FV wx (.bool f))) := Lib.hid (fun wx hW => by
    have := HFF.out sa sc sb scb wx (by rw [HJ1.out]; exact (HA1.out.2.1.still HA2.out.2.2.1).still hW) (by rw [HJ2.out]; exact HA2.out.2.1.still hW)
    rw [HJ1.out, HJ2.out] at this
    exact this)
  have hp1n : p1 ≠ w2.heap.size := by have := lt_of_heap HA2.out.2.2.2.1; omega
  clear hp1 hS0 hT hS hs2' hf2 hS12 HM2 g1 hB
  go_wp2_with (refine (HFT.out _ ?_).mono ?_)
  · exact (Only.refl _ _).alloc _
  rintro e w3 ⟨rfl, hS3⟩
  have hSW : Same w2 w3 := Same.trans ((Only.refl _ _).alloc _) hS3
  obtain ⟨p2, hpp2⟩ : ∃ p2, w2.heap.size = p2 := ⟨_, rfl⟩
  have HW : Hid (Same w w3 ∧ w3.heap[p1]? = some (.cells #[.bool x, .int .u64 (q1 : Int), .slice sa j1 sc] 36 (0, 0)) ∧ w3.heap[p2]? = some (.cells #[.bool y, .int .u64 (q2 : Int), .slice sb j2 scb] 36 (0, 0)) ∧
      OS 40 stc 6 w3 ta (L1.length + 1) tc (madeT x m1 q1 0 L1) ∧ OS 40 stc 6 w3 tb (L2.length + 1) tcb (madeT y m2 q2 1 L2) ∧ OU w3 sa j1 sc A ∧ OU w3 sb j2 scb B ∧ (∀ i, At ta i → w.heap.size ≤ i ∧ ¬ At sa i ∧ ¬ At sb i ∧ i ≠ p1 ∧ i ≠ p2) ∧ w2.heap.size ≤ w3.heap.size) := Lib.hid
    ⟨Same.trans HA1.out.2.2.1 (Same.trans HA2.out.2.2.1 hSW), hS3.obj HW3.out id, by rw [← hpp2]; exact hS3.obj (heap_alloc_new _ _) id, (HA1.out.1.still HA2.out.2.2.1).still hSW, HA2.out.1.still hSW, (HA1.out.2.1.still HA2.out.2.2.1).still hSW, HA2.out.2.1.still hSW,
      fun i hi => ⟨(HA1.out.2.2.2 i hi).1, (HA1.out.2.2.2 i hi).2, fun h => by have := HA2.out.2.2.2.2.2 i h; have := HA1.out.1.1.lt i hi; omega, by have := HA1.out.1.1.lt i hi; omega, by have := HA1.out.1.1.lt i hi; have := HA2.out.2.2.1.size; omega⟩, hSW.size⟩
  rw [hpp2]
  clear hS3 hSW HW3 HA1 HA2 c0 c1 c2 HFT hp1n G1 g0 HFF eg2
  cases f with
  | true =>
    obtain ⟨Y, hY, hruns⟩ := HRR.out rfl
    obtain ⟨n1, hn1⟩ : ∃ n1, L1.length + 1 = n1 := ⟨_, rfl⟩
    obtain ⟨n2, hn2⟩ : ∃ n2, L2.length + 1 = n2 := ⟨_, rfl⟩
    rw [hn1, hn2] at HW hY
    rw [hn1, hn2]
    have hn12 : n1 ≤ 41 ∧ n2 ≤ 41 := by omega
    obtain ⟨N, HN⟩ : ∃ N, Hid (n1 + n2 + 6 = N) := ⟨_, Lib.hid rfl⟩
    have hN2 : N ≤ 100 := by have := HN.out; omega
    have hN3 : ((N : Int) == 0) = false := by have := HN.out; rw [beq_eq_false_iff_ne]; omega
    have hN4 : 1 ≤ N := by have := HN.out; omega
    have HRU := Lib.hid hruns
    have HY := Lib.hid hY
    clear hruns hY HRR
    go_wp2_with (at_builtin; refine wpList_append (n1 + n2) ((madeT x m1 q1 0 L1).flatMap stc ++ (madeT y m2 q2 1 L2).flatMap stc) rfl _ _ _ _ rfl slStp rfl HW.out.2.2.2.1.1 rfl (HW.out.2.2.2.2.1.1.rd.src Tryz.underlying33) rfl rfl (by unfold maxLen; omega) (by omega) ?_)
    intro tx txc w4 hG4
    go_wp2_with (at_builtin; refine wpList_append N ((madeT x m1 q1 0 L1).flatMap stc ++ (madeT y m2 q2 1 L2).flatMap stc ++ (twoT op).flatMap stc) rfl _ _ _ _ rfl slStp rfl (hG4.own.keep (S := fun _ => False) (by repeat (first | exact Only.refl _ _ | apply Only.alloc | apply Only.drew)) (fun _ _ => id)) rfl (Src.row (size := 6) (cs := ((twoT op).flatMap stc).toArray) (t := 40) (fr := (0, 0)) Tryz.underlying33 (by exact heap_alloc_new _ _) 6 6 rfl (by intro u hu; exact flat_one stc_one _ u (by simpa using hu))) HN.out (by simp) (by unfold maxLen; omega) (by omega) ?_)
    intro ty tyc w5 hG5
    have hO4 : Only (At ta) w3 w4 := hG4.only
    have hO5 : Only (At ta) w3 w5 := hO4.trans (((Only.refl (At tx) w4).alloc _).trans hG5.only (fun _ _ h => h)) (fun k hk h => (hG4.fresh k h).elim id (fun h2 => absurd hk (by omega)))
    have hta := HW.out.2.2.2.2.2.2.2.1
    have HW5 : Hid (Same w w5 ∧ w5.heap[p1]? = some (.cells #[.bool x, .int .u64 (q1 : Int), .slice sa j1 sc] 36 (0, 0)) ∧ w5.heap[p2]? = some (.cells #[.bool y, .int .u64 (q2 : Int), .slice sb j2 scb] 36 (0, 0)) ∧
        RS stc 6 w5 ty N tyc (madeT x m1 q1 0 L1 ++ madeT y m2 q2 1 L2 ++ twoT op) ∧ OU w5 sa j1 sc A ∧ OU w5 sb j2 scb B) := Lib.hid
      ⟨new_only HW.out.1 hO5 (fun i hi => (hta i hi).1), hO5.obj HW.out.2.1 (fun h => (hta _ h).2.2.2.1 rfl), hO5.obj HW.out.2.2.1 (fun h => (hta _ h).2.2.2.2 rfl),
        ⟨by rw [List.flatMap_append, List.flatMap_append, List.append_assoc]; exact hG5.own.rd, by rw [List.length_append, List.length_append, HW.out.2.2.2.1.2, HW.out.2.2.2.2.1.2]; exact HN.out⟩,
        ⟨HW.out.2.2.2.2.2.1.1.keep hO5 (fun i hi h => (hta i h).2.1 hi), HW.out.2.2.2.2.2.1.2⟩, ⟨HW.out.2.2.2.2.2.2.1.1.keep hO5 (fun i hi h => (hta i h).2.2.1 hi), HW.out.2.2.2.2.2.2.1.2⟩⟩
    have HANS := Lib.hid (baAnswers ty N tyc _ _ w5 HW5.out.2.2.2.1 (by omega) HRU.out)
    have HYL : Hid ((Y ++ twoY A B C).length = N ∧ Y.length = n1 + n2) := Lib.hid (by rw [List.length_append, HY.out]; exact ⟨by simp only [twoY, List.length_cons, List.length_nil]; have := HN.out; omega, by omega⟩)
    clear hG4 hG5 hO4 hO5 hta HRU HY
    go_wp2_with (go_at_call 21; refine HANS.out.mono ?_)
    rintro e w6 ⟨oa, oc, As, rfl, hRS, hAs, hIts, hoa, hS6⟩
    have HR6 := Lib.hid (And.intro hRS (And.intro hAs (And.intro hIts hS6)))
    rw [HYL.out.1] at HR6 ⊢
    have e1 : w6.cell? ⟨p1, 2, none⟩ = some (.slice sa j1 sc) := block_cell (hS6.obj HW5.out.2.1 id) rfl
    have e2 : w6.cell? ⟨p2, 2, none⟩ = some (.slice sb j2 scb) := block_cell (hS6.obj HW5.out.2.2.1 id) rfl
    have HOU6 : Hid (OU w6 sa j1 sc A ∧ OU w6 sb j2 scb B) := Lib.hid ⟨HW5.out.2.2.2.2.1.still hS6, HW5.out.2.2.2.2.2.still hS6⟩
    have HNA : Hid (Calls Tryz.prog mk #[.slice sa j1 sc, .slice sb j2 scb] w6 (MkP C w6)) := Lib.hid (by
      have := HKK.out sa sc sb scb w6 (by rw [HJ1.out]; exact HOU6.out.1) (by rw [HJ2.out]; exact HOU6.out.2)
      rw [HJ1.out, HJ2.out] at this
      exact this)
    have HS06 : Hid (Same w w6) := Lib.hid (Same.trans HW5.out.1 hS6)
    clear hRS hAs hIts hoa hS6 HANS HKK
    go_wp2_with (refine HNA.out.mono ?_)
    rintro e w7 ⟨na, nc, rfl, hC7, hS7⟩
    have HC := Lib.hid (And.intro hC7 hS7)
    have g1 : w7.cell? ⟨p1, 2, none⟩ = some (.slice sa j1 sc) := (hS7.cell (p := ⟨p1, 2, none⟩) (lt_cell e1) id).trans e1
    have g2 : w7.cell? ⟨p2, 2, none⟩ = some (.slice sb j2 scb) := (hS7.cell (p := ⟨p2, 2, none⟩) (lt_cell e2) id).trans e2
    obtain ⟨ob, oo, hoa, hob, hcl⟩ := (HR6.out.1.still hS7).at anc_len (by have := HN.out; omega)
    obtain ⟨x1, hx1, hy1⟩ := as_at HR6.out.2.1 HYL.out.2 (t := 1) rfl
    obtain ⟨x2, hx2, hy2⟩ := as_at HR6.out.2.1 HYL.out.2 (t := 2) rfl
    obtain ⟨x3, hx3, hy3⟩ := as_at HR6.out.2.1 HYL.out.2 (t := 3) rfl
    obtain ⟨x4, hx4, hy4⟩ := as_at HR6.out.2.1 HYL.out.2 (t := 4) rfl
    obtain ⟨x5, hx5, hy5⟩ := as_at HR6.out.2.1 HYL.out.2 (t := 5) rfl
    have k1 := hcl _ x1 hx1 2 _ rfl
    have k2 := hcl _ x2 hx2 1 _ rfl
    have k3 := hcl _ x3 hx3 0 _ rfl
    have k4 := hcl _ x4 hx4 2 _ rfl
    have k5 := hcl _ x5 hx5 2 _ rfl
    rw [hy1] at k1
    rw [hy2] at k2
    rw [hy3] at k3
    rw [hy4] at k4
    rw [hy5] at k5
    have HB1 : Hid (∀ n, Calls Tryz.prog 22 #[.slice x1.na C.length x1.nc, .slice na C.length nc] (w7.drewN n) fun e w' => e = .returned (.bool true) ∧ ∃ m, w' = (w7.drewN n).drewN m) := Lib.hid (fun n => by
      have h := (HR6.out.2.2.1 x1 (List.mem_of_getElem? hx1)).1
      rw [hy1] at h
      have := baSameQ (w := w7.drewN n) (l := C) (l2 := C) ⟨(h.keep hS7 (fun _ _ => id)).rd.drewN n, rfl⟩ ⟨hC7.1.rd.drewN n, hC7.2⟩
      simpa using this)
    have HB4 : Hid (∀ n, Calls Tryz.prog 22 #[.slice x4.na j1 x4.nc, .slice sa j1 sc] (w7.drewN n) fun e w' => e = .returned (.bool true) ∧ ∃ m, w' = (w7.drewN n).drewN m) := Lib.hid (fun n => by
      have h := (HR6.out.2.2.1 x4 (List.mem_of_getElem? hx4)).1
      rw [hy4] at h
      have := baSameQ (w := w7.drewN n) (l := A) (l2 := A) ⟨(h.keep hS7 (fun _ _ => id)).rd.drewN n, rfl⟩ ⟨(HOU6.out.1.still hS7).1.rd.drewN n, HOU6.out.1.2⟩
      rw [HOU6.out.1.2] at this
      simpa using this)
    have HB5 : Hid (∀ n, Calls Tryz.prog 22 #[.slice x5.na j2 x5.nc, .slice sb j2 scb] (w7.drewN n) fun e w' => e = .returned (.bool true) ∧ ∃ m, w' = (w7.drewN n).drewN m) := Lib.hid (fun n => by
      have h := (HR6.out.2.2.1 x5 (List.mem_of_getElem? hx5)).1
      rw [hy5] at h
      have := baSameQ (w := w7.drewN n) (l := B) (l2 := B) ⟨(h.keep hS7 (fun _ _ => id)).rd.drewN n, rfl⟩ ⟨(HOU6.out.2.still hS7).1.rd.drewN n, HOU6.out.2.2⟩
      rw [HOU6.out.2.2] at this
      simpa using this)
    have hk4 : w7.cell? ⟨ob, oo + (n1 + n2 + 4) * 4 + 2, none⟩ = some (.slice x4.na j1 x4.nc) := by
      have : A.length = j1 := HJ1.out
      rw [← this]; exact k4
    have hk5 : w7.cell? ⟨ob, oo + (n1 + n2 + 5) * 4 + 2, none⟩ = some (.slice x5.na j2 x5.nc) := by
      have : B.length = j2 := HJ2.out
      rw [← this]; exact k5
    have HSF : Hid (Same w w7) := Lib.hid (Same.trans HS06.out hS7)
    clear hC7 hS7 e1 e2 HNA k4 k5 hx1 hx2 hx3 hx4 hx5 hy1 hy2 hy3 hy4 hy5 hcl HR6 HOU6 HW5 HW HC HS06 eg1
    obtain ⟨j3, hj3⟩ : ∃ j3, C.length = j3 := ⟨_, rfl⟩
    have hbb := bool_dec j3 C.isEmpty (by rw [← hj3]; cases C <;> simp)
    have k1' : w7.cell? ⟨ob, oo + (n1 + n2 + 1) * 4 + 2, none⟩ = some (.slice x1.na j3 x1.nc) := by rw [← hj3]; exact k1
    have k2' : w7.cell? ⟨ob, oo + (n1 + n2 + 2) * 4 + 1, none⟩ = some (.int .u64 (j3 : Int)) := by rw [← hj3]; exact k2
    have k3' : w7.cell? ⟨ob, oo + (n1 + n2 + 3) * 4, none⟩ = some (.bool C.isEmpty) := k3
    rw [hj3] at HB1 ⊢
    generalize C.isEmpty = ce at *
    have hj3' : j3 ≤ 1000 := by omega
    clear k1 k2 k3 hj3 HYL
    have b1 : IntKind.i64.wrap ((N : Int) - 5) = ((n1 + n2 + 1 : Nat) : Int) := by have := HN.out; rw [IntWalk.i64_in _ (by omega)]; omega
    have b2 : IntKind.i64.wrap ((N : Int) - 4) = ((n1 + n2 + 2 : Nat) : Int) := by have := HN.out; rw [IntWalk.i64_in _ (by omega)]; omega
    have b3 : IntKind.i64.wrap ((N : Int) - 3) = ((n1 + n2 + 3 : Nat) : Int) := by have := HN.out; rw [IntWalk.i64_in _ (by omega)]; omega
    have b4 : IntKind.i64.wrap ((N : Int) - 2) = ((n1 + n2 + 4 : Nat) : Int) := by have := HN.out; rw [IntWalk.i64_in _ (by omega)]; omega
    have b5 : IntKind.i64.wrap ((N : Int) - 1) = ((n1 + n2 + 5 : Nat) : Int) := by have := HN.out; rw [IntWalk.i64_in _ (by omega)]; omega
    have b6 : IntKind.u64.wrap (j3 : Int) = (j3 : Int) := by rw [IntKind.wrap_u64]; omega
    have l1 : ((n1 + n2 + 1 : Nat) : Int) < (N : Int) := by have := HN.out; omega
    have l2 : ((n1 + n2 + 2 : Nat) : Int) < (N : Int) := by have := HN.out; omega
    have l3 : ((n1 + n2 + 3 : Nat) : Int) < (N : Int) := by have := HN.out; omega
    have l4 : ((n1 + n2 + 4 : Nat) : Int) < (N : Int) := by have := HN.out; omega
    have l5 : ((n1 + n2 + 5 : Nat) : Int) < (N : Int) := by have := HN.out; omega
    generalize n1 + n2 + 1 = i1 at *
    generalize n1 + n2 + 2 = i2 at *
    generalize n1 + n2 + 3 = i3 at *
    generalize n1 + n2 + 4 = i4 at *
    generalize n1 + n2 + 5 = i5 at *
    clear hl1 hl2 hn1 hn2 hn12 hA1 hB1 hC
    subst hoa
    go_wp2_with fail
    rcases hbb with ⟨rfl, rfl⟩ | ⟨rfl, hj0⟩
    · go_quiet (first | (go_at_call 22; with_reducible exact Calls.quiet_of (HB1.out _)) | (go_at_call 22; with_reducible exact Calls.quiet_of (HB4.out _)) | (go_at_call 22; with_reducible exact Calls.quiet_of (HB5.out _)))
      go_wp2_with fail
      go_ret
      exact ⟨rfl, HSF.out.drewN _⟩
    · have hj0' : ((j3 : Int) == 0) = false := by rw [beq_eq_false_iff_ne]; omega
      go_quiet (first | (go_at_call 22; with_reducible exact Calls.quiet_of (HB1.out _)) | (go_at_call 22; with_reducible exact Calls.quiet_of (HB4.out _)) | (go_at_call 22; with_reducible exact Calls.quiet_of (HB5.out _)))
      go_wp2_with fail
      go_ret
      exact ⟨rfl, HSF.out.drewN _⟩
  | false =>
    go_wp2_with fail
    go_ret
    exact ⟨rfl, HW.out.1⟩
end Go.Proofs.YtacjkbljokjdkaaGreat.ba
namespace Go.Proofs.YtacjkbljokjdkaaGreat.ba
open Go.RowKit Go.Proofs.YtacjkbljokjdkaaGreat.base Go.Proofs.YtacjkbljokjdkaaGreat.heap Go.Proofs.YtacjkbljokjdkaaGreat.rows Go.Proofs.YtacjkbljokjdkaaGreat.bit Go.Proofs.YtacjkbljokjdkaaGreat.bs
set_option linter.unusedVariables false
theorem madeCD {s on n c : Nat} {a : Option Addr} {l : List Nat} (hs : s < 65536) (hon : on < 1000) : MadeC true s on a n c l (1 + s % 512) ((1 + s % 512 + 63) / 64) :=
  fun wx h => baMadeD s on a n c l wx h hs hon
theorem fitsShorter (q1 q2 : Nat) (A B : List Nat) : FitsC 17 true true q1 q2 A B (decide (q1 ≤ q2)) :=
  fun sa sc sb scb wx _ _ => baNoShorter true true q1 q2 sa sb _ _ sc scb wx
set_option maxRecDepth 100000 in
set_option maxHeartbeats 1600000 in
theorem baAnyW (d1 d2 : Bool) (q1 q2 : Nat) (a1 a2 : Option Addr) (n1 n2 c1 c2 : Nat) (w : World) : Calls Tryz.prog 18 #[bav d1 q1 a1 n1 c1, bav d2 q2 a2 n2 c2] w (FV w (.bool true)) := by
  unfold bav
  have HS : Hid (∀ A B : Obj, Same w ((w.alloc A).alloc B)) := Lib.hid (fun A B => ((Only.refl _ _).alloc _).alloc _)
  go_enter Tryz.func18, Tryz.ntmps18
  go_wp2_with fail
  go_ret
  exact ⟨rfl, HS.out _ _⟩
theorem fitsAny (x y : Bool) (q1 q2 : Nat) (A B : List Nat) : FitsC 18 x y q1 q2 A B true := fun sa sc sb scb wx _ _ => baAnyW x y q1 q2 sa sb _ _ sc scb wx
theorem PutP.mk {l : List Nat} {a : Option Addr} {w w' : World} {e : Ending} (h : PutP l a w e w') : MkP l w e w' := by
  obtain ⟨a', c', h1, h2, h3, _⟩ := h
  exact ⟨a', c', h1, h2, h3⟩
theorem makesNand {A B : List Nat} (hA : A.length ≤ 1000000) (hB : Asc B) : MakesC 16 A B (nandL A B) :=
  fun sa sc sb scb wx h1 h2 => (baNand h1.rl h2.rl hB hA).mono fun e w' h => h.mk
theorem nandL_len (A B : List Nat) : (nandL A B).length ≤ A.length := List.length_filter_le _ _
end Go.Proofs.YtacjkbljokjdkaaGreat.ba
namespace Go.Proofs.YtacjkbljokjdkaaGreat.ba
open Go.Proofs.YtacjkbljokjdkaaGreat.bit
set_option linter.unusedVariables false

theorem wd_char {P : List (Nat × Nat)} {f : Nat → Nat} (h : PAsc P) (h1 : ∀ j b, (j, b) ∈ P → f j = b) (h2 : ∀ j, (∀ b, (j, b) ∉ P) → f j = 0) (j : Nat) : wd P j = f j := by
  by_cases hj : ∃ b, (j, b) ∈ P
  · obtain ⟨b, hb⟩ := hj
    rw [wd_mem h hb, h1 j b hb]
  · have hn : ∀ b, (j, b) ∉ P := fun b hb => hj ⟨b, hb⟩
    rw [wd_none hn, h2 j hn]
/-- what a list of pairs of a sparse array is -/
def Good (P : List (Nat × Nat)) : Prop := PAsc P ∧ ∀ x ∈ P, Lt64 x.2 ∧ x.2 ≠ 0 ∧ x.1 < 2 ^ 57
theorem Good.nil : Good [] := ⟨Asc.nil, by simp⟩
theorem map_fst_take (P : List (Nat × Nat)) (i : Nat) : (P.take i).map (·.1) = (P.map (·.1)).take i := List.map_take
theorem map_snd_take (P : List (Nat × Nat)) (i : Nat) : (P.take i).map (·.2) = (P.map (·.2)).take i := List.map_take
theorem mem_fst {P : List (Nat × Nat)} {j : Nat} : j ∈ P.map (·.1) ↔ ∃ b, (j, b) ∈ P := by
  simp
/-- pairs that are turned at one place, or that have a further one -/
def pset (P : List (Nat × Nat)) (i j b : Nat) : List (Nat × Nat) := if j ∈ P.map (·.1) then P.take i ++ (j, b) :: P.drop (i + 1) else P.take i ++ (j, b) :: P.drop i
theorem pset_fst (P : List (Nat × Nat)) (h : PAsc P) (j b : Nat) : (pset P (at_ (P.map (·.1)) j) j b).map (·.1) = put (P.map (·.1)) j := by
  unfold pset put
  split
  · rename_i hm
    rw [List.map_append, List.map_cons, map_fst_take, List.map_drop]
    exact (drp_split h hm).symm
  · rw [List.map_append, List.map_cons, map_fst_take, List.map_drop]
theorem pset_mem {P : List (Nat × Nat)} (h : PAsc P) (j b : Nat) (x : Nat × Nat) : x ∈ pset P (at_ (P.map (·.1)) j) j b ↔ x = (j, b) ∨ (x ∈ P ∧ x.1 ≠ j) := by
  have hd := drop_ge h (k := j)
  have ht := take_lt (l := P.map (·.1)) (k := j)
  have hsplit : ∀ y, y ∈ P ↔ y ∈ P.take (at_ (P.map (·.1)) j) ∨ y ∈ P.drop (at_ (P.map (·.1)) j) := fun y => by rw [← List.mem_append, List.take_append_drop]
  have t1 : ∀ y ∈ P.take (at_ (P.map (·.1)) j), y.1 < j := fun y hy => ht y.1 (by rw [← map_fst_take]; exact List.mem_map.2 ⟨y, hy, rfl⟩)
  unfold pset
  split
  · rename_i hm
    have h2 := (mem_at h).1 hm
    rw [List.getElem?_map] at h2
    cases h3 : P[at_ (P.map (·.1)) j]? with
    | none => rw [h3] at h2; cases h2
    | some z =>
      rw [h3] at h2
      have hz : z.1 = j := by simpa using h2
      have hdr : P.drop (at_ (P.map (·.1)) j) = z :: P.drop (at_ (P.map (·.1)) j + 1) := by
        obtain ⟨hl, he⟩ := List.getElem?_eq_some_iff.1 h3
        rw [← he]; exact List.drop_eq_getElem_cons hl
      have t2 : ∀ y ∈ P.drop (at_ (P.map (·.1)) j + 1), j < y.1 := fun y hy => by
        have := h.drop (at_ (P.map (·.1)) j)
        rw [← List.map_drop, hdr, List.map_cons] at this
        have := (List.pairwise_cons.1 this).1 y.1 (List.mem_map.2 ⟨y, hy, rfl⟩)
        omega
      rw [List.mem_append, List.mem_cons, hsplit, hdr, List.mem_cons]
      constructor
      · rintro (h4 | h4 | h4)
        · have := t1 x h4; exact .inr ⟨.inl h4, by omega⟩
        · exact .inl h4
        · have := t2 x h4; exact .inr ⟨.inr (.inr h4), by omega⟩
      · rintro (h4 | ⟨h4 | h4 | h4, h5⟩)
        · exact .inr (.inl h4)
        · exact .inl h4
        · subst h4; exact absurd hz h5
        · exact .inr (.inr h4)
  · rename_i hm
    rw [List.mem_append, List.mem_cons, hsplit]
    constructor
    · rintro (h4 | h4 | h4)
      · have := t1 x h4; exact .inr ⟨.inl h4, by omega⟩
      · exact .inl h4
      · refine .inr ⟨.inr h4, fun e => hm ?_⟩
        rw [← e]; exact List.mem_map.2 ⟨x, List.mem_of_mem_drop h4, rfl⟩
    · rintro (h4 | ⟨h4 | h4, h5⟩)
      · exact .inr (.inl h4)
      · exact .inl h4
      · exact .inr (.inr h4)
theorem pset_asc {P : List (Nat × Nat)} (h : PAsc P) (j b : Nat) : PAsc (pset P (at_ (P.map (·.1)) j) j b) := by
  unfold PAsc
  rw [pset_fst P h]
  exact put_asc h j
theorem pset_wd {P : List (Nat × Nat)} (h : PAsc P) (j b i : Nat) : wd (pset P (at_ (P.map (·.1)) j) j b) i = if i = j then b else wd P i := by
  refine wd_char (f := fun i => if i = j then b else wd P i) (pset_asc h j b) (fun i c hm => ?_) (fun i hn => ?_) i
  · rcases (pset_mem h j b (i, c)).1 hm with e | ⟨h1, h2⟩
    · injection e with e1 e2
      simp [e1, e2]
    · have h2' : i ≠ j := h2
      simp only [h2', if_false]
      exact wd_mem h h1
  · have hij : i ≠ j := fun e => hn b ((pset_mem h j b (i, b)).2 (.inl (by rw [e])))
    simp only [hij, if_false]
    exact wd_none (fun c hc => hn c ((pset_mem h j b (i, c)).2 (.inr ⟨hc, hij⟩)))
/-- the pairs with a further bit -/
def pput (P : List (Nat × Nat)) (k : Nat) : List (Nat × Nat) := pset P (at_ (P.map (·.1)) (k / 64)) (k / 64) (wd P (k / 64) ||| 2 ^ (k % 64))
theorem pput_good {P : List (Nat × Nat)} (h : Good P) {k : Nat} (hk : k < 2 ^ 60) : Good (pput P k) := by
  refine ⟨pset_asc h.1 _ _, fun x hx => ?_⟩
  rcases (pset_mem h.1 _ _ x).1 hx with rfl | ⟨h1, _⟩
  · have hw : Lt64 (wd P (k / 64)) := by
      by_cases h0 : wd P (k / 64) = 0
      · rw [h0]; unfold Lt64; omega
      · exact (h.2 _ (wd_some h0)).1
    refine ⟨lt64_or hw (lt64_pow (Nat.mod_lt _ (by omega))), fun e => ?_, ?_⟩
    · have h2 : (wd P (k / 64) ||| 2 ^ (k % 64)).testBit (k % 64) = true := by simp [Nat.testBit_or, Nat.testBit_two_pow_self]
      have e' : wd P (k / 64) ||| 2 ^ (k % 64) = 0 := e
      rw [e'] at h2; simp at h2
    · show k / 64 < 2 ^ 57
      omega
  · exact h.2 x h1
theorem pput_rep {P : List (Nat × Nat)} (h : Good P) {l : List Nat} (hr : Rep (wd P) l) (k : Nat) : Rep (wd (pput P k)) (put l k) :=
  (rep_put hr (put_asc hr.1 k) (fun x => put_mem)).congr (fun j => by
    unfold pput
    rw [pset_wd h.1]
    by_cases e : j = k / 64
    · subst e; simp
    · simp [e])
theorem pput_len (P : List (Nat × Nat)) (h : PAsc P) (k : Nat) : (pput P k).length ≤ P.length + 1 := by
  have := put_len (P.map (·.1)) (k / 64)
  rw [← pset_fst P h (k / 64) (wd P (k / 64) ||| 2 ^ (k % 64)), List.length_map, List.length_map] at this
  exact this
/-- the words of the pairs with a further bit -/
theorem pput_snd {P : List (Nat × Nat)} (h : PAsc P) (k : Nat) : (pput P k).map (·.2) = ((if k / 64 ∈ P.map (·.1) then P.map (·.2) else (P.map (·.2)).take (at_ (P.map (·.1)) (k / 64)) ++ 0 :: (P.map (·.2)).drop (at_ (P.map (·.1)) (k / 64))).set (at_ (P.map (·.1)) (k / 64)) (wd P (k / 64) ||| 2 ^ (k % 64))) := by
  have hal := at_le (P.map (·.1)) (k / 64)
  rw [List.length_map] at hal
  unfold pput pset
  split
  · rename_i hm
    have h2 := (mem_at h).1 hm
    have hl := (List.getElem?_eq_some_iff.1 h2).1
    rw [List.map_append, List.map_cons, List.map_drop, map_snd_take]
    generalize at_ (P.map (·.1)) (k / 64) = i at *
    rw [List.length_map] at hl
    rw [List.set_eq_take_append_cons_drop, if_pos (by rw [List.length_map]; exact hl)]
  · rw [List.map_append, List.map_cons, List.map_drop, map_snd_take]
    generalize at_ (P.map (·.1)) (k / 64) = i at *
    have hlt : ((P.map (·.2)).take i).length = i := by rw [List.length_take, List.length_map]; omega
    rw [List.set_append_right _ _ (by omega), hlt, Nat.sub_self]
    rfl
/-- the word at the place that is turned -/
theorem pput_old {P : List (Nat × Nat)} (h : PAsc P) (k : Nat) : (if k / 64 ∈ P.map (·.1) then P.map (·.2) else (P.map (·.2)).take (at_ (P.map (·.1)) (k / 64)) ++ 0 :: (P.map (·.2)).drop (at_ (P.map (·.1)) (k / 64)))[at_ (P.map (·.1)) (k / 64)]? = some (wd P (k / 64)) := by
  have hal := at_le (P.map (·.1)) (k / 64)
  rw [List.length_map] at hal
  split
  · rename_i hm
    have h2 := (mem_at h).1 hm
    rw [List.getElem?_map] at h2 ⊢
    cases h3 : P[at_ (P.map (·.1)) (k / 64)]? with
    | none => rw [h3] at h2; cases h2
    | some z =>
      rw [h3] at h2
      have hz : z.1 = k / 64 := by simpa using h2
      have := wd_mem h (j := k / 64) (b := z.2) (by rw [← hz]; exact List.mem_of_getElem? h3)
      rw [this]; rfl
  · rename_i hm
    have hlt : ((P.map (·.2)).take (at_ (P.map (·.1)) (k / 64))).length = at_ (P.map (·.1)) (k / 64) := by rw [List.length_take, List.length_map]; omega
    rw [List.getElem?_append_right (by omega), hlt, Nat.sub_self, wd_none (fun b hb => hm (mem_fst.2 ⟨b, hb⟩))]
    rfl
/-- counting gives the place -/
theorem count_at {l : List Nat} (h : Asc l) (x n : Nat) (hn : l.length = n) : (List.range n).countP (fun i => !decide (x ≤ l.getD i 0)) = at_ l x := by
  have hle := at_le l x
  have : ∀ m, m ≤ n → (List.range m).countP (fun i => !decide (x ≤ l.getD i 0)) = min m (at_ l x) := by
    intro m
    induction m with
    | zero => intro _; simp
    | succ m ih =>
      intro hm
      rw [List.range_succ, List.countP_append, ih (by omega), List.countP_cons, List.countP_nil]
      have hg : l[m]? = some l[m] := List.getElem?_eq_getElem (by omega)
      have hd : l.getD m 0 = l[m] := by rw [List.getD_eq_getElem?_getD, hg]; rfl
      rw [hd]
      by_cases hlt : m < at_ l x
      · have h1 := at_below l x m _ hlt hg
        have : ¬ x ≤ l[m] := by omega
        simp [this]; omega
      · have h1 := drop_ge h (k := x) l[m] (List.mem_iff_getElem?.2 ⟨m - at_ l x, by rw [List.getElem?_drop, show at_ l x + (m - at_ l x) = m by omega]; exact hg⟩)
        simp [h1]; omega
  rw [this n (Nat.le_refl _)]
  omega
end Go.Proofs.YtacjkbljokjdkaaGreat.ba
namespace Go.Proofs.YtacjkbljokjdkaaGreat.ba
open Go.RowKit Go.Proofs.YtacjkbljokjdkaaGreat.base Go.Proofs.YtacjkbljokjdkaaGreat.heap Go.Proofs.YtacjkbljokjdkaaGreat.rows Go.Proofs.YtacjkbljokjdkaaGreat.bit Go.Proofs.YtacjkbljokjdkaaGreat.bs
set_option linter.unusedVariables false
/-- a part of a row is written over -/
theorem Own.over {e : Nat} {w w' : World} {g n cap off k : Nat} {xs ys : List Value} {cur : Array Value} (h : Own e 1 w (some ⟨g, 0, none⟩) n cap xs) (hb : w.heap[g]? = some (.cells cur e (0, 0))) (hw : w'.heap[g]? = some (.cells (cur.toList.take off ++ ys ++ cur.toList.drop (off + k)).toArray e (0, 0))) (hk : ys.length = k) (hn : off + k = n) (h1 : ∀ u ∈ ys, u.oneCell' = true) :
    Own e 1 w' (some ⟨g, 0, none⟩) n cap (xs.take off ++ ys) := by
  rcases h.alt with ⟨hc, _⟩ | ⟨b, cur', hb', hbb, hs, ht⟩
  · cases hc
  · cases hb'
    rw [hb] at hbb
    cases hbb
    have hle := h.le
    have hcl : cur.toList.length = cap := by rw [Array.length_toList, hs, Nat.mul_one]
    have hx : xs.take off = cur.toList.take off := by rw [← ht, List.take_take]; congr 1; omega
    have htl : (cur.toList.take off).length = off := by rw [List.length_take, hcl]; omega
    refine ⟨by rw [List.length_append, hx, htl, hk]; omega, hle, h.max, fun u hu => ?_, .inr ⟨g, _, rfl, hw, ?_, ?_⟩⟩
    · rcases List.mem_append.1 hu with hu | hu
      · exact h.one u (List.mem_of_mem_take hu)
      · exact h1 u hu
    · simp only [List.size_toArray, List.length_append, List.length_take, List.length_drop, hcl, hk]; omega
    · rw [hx]
      have : (cur.toList.take off ++ ys).length = n * 1 := by rw [List.length_append, htl, hk]; omega
      rw [← this]; exact List.take_left
theorem own_block {e : Nat} {w : World} {g n cap : Nat} {xs : List Value} (h : Own e 1 w (some ⟨g, 0, none⟩) n cap xs) : ∃ cur, w.heap[g]? = some (.cells cur e (0, 0)) ∧ cur.size = cap := by
  rcases h.alt with ⟨hc, _⟩ | ⟨b, cur, hb', hbb, hs, ht⟩
  · cases hc
  · cases hb'
    exact ⟨cur, hbb, by rw [hs, Nat.mul_one]⟩
theorem Dn.over {w w' : World} {p g c lo hi off k : Nat} {ws vs : List Nat} {any : Bool} {cur : Array Value} (h : Dn w p (some ⟨g, 0, none⟩) c ws lo hi any) (hb : w.heap[g]? = some (.cells cur 74 (0, 0))) (hw : w'.heap[g]? = some (.cells (cur.toList.take off ++ U vs ++ cur.toList.drop (off + k)).toArray 74 (0, 0))) (hk : vs.length = k) (hn : off + k = ws.length) (hv : ∀ v ∈ vs, Lt64 v) (ho : Only (fun j => j = g) w w') :
    Dn w' p (some ⟨g, 0, none⟩) c (ws.take off ++ vs) lo hi any := by
  have hl : (ws.take off ++ vs).length = ws.length := by rw [List.length_append, List.length_take, hk]; omega
  refine ⟨by rw [hl]; exact ho.obj h.obj (fun e => h.nap (by rw [e]; exact rfl)), ?_, ?_, by simp, h.nap, by rw [hl]; exact h.sm⟩
  · rw [hl]
    have := Own.over h.row hb hw (by rw [U_len, hk]) hn (U_one _)
    have e : U (ws.take off ++ vs) = (U ws).take off ++ U vs := by simp [U]
    rw [e]; exact this
  · intro x hx
    rcases List.mem_append.1 hx with h1 | h1
    · exact h.ok x (List.mem_of_mem_take h1)
    · exact hv x h1
theorem slB2 : SliceOf Tryz.prog 88 74 1 8 := SliceOf.mk (z := .int .u64 0) Tryz.underlying88 (by kernel_rfl) rfl
theorem slBl : SliceOf Tryz.prog 91 74 1 8 := SliceOf.mk (z := .int .u64 0) Tryz.underlying91 (by kernel_rfl) rfl
set_option maxRecDepth 100000 in
set_option maxHeartbeats 1600000 in
theorem copyD {w : World} {p c lo hi : Nat} {a : Option Addr} {ws l : List Nat} {any : Bool} (h : Dn w p a c ws lo hi any) (he : Ends ws lo hi any) (hr : Rep (wf ws) l) : Calls Tryz.prog 95 #[.pointer (some ⟨p, 0, none⟩)] w (NewA ⟨true, ws.length, l⟩ w) := by
  obtain ⟨b, ha, hb, hbp, c0, c1, c2, c3, hf, hc, hfb⟩ := h.facts
  have hsm := h.sm
  have hbd := h.row.bound
  have H := Lib.hid h
  obtain ⟨n, HN⟩ : ∃ n, Hid (ws.length = n) := ⟨_, Lib.hid rfl⟩
  rw [HN.out] at c0 hsm hbd ⊢
  have hmk := make_eq (P := Tryz.prog) (e := 74) (size := 1) (t := 91) (z := .int .u64 0) (bytes := 8) .i64 .i64 Tryz.underlying91 (by kernel_rfl) n (by omega) (by omega)
  have hrd := h.row.rd
  rw [HN.out] at hrd
  have HRD := Lib.hid hrd
  obtain ⟨g, hg⟩ : ∃ g, w.heap.size = g := ⟨_, rfl⟩
  have hpg := lt_of_heap h.obj
  have hpne : p ≠ g := by omega
  have c0' : (w.alloc (.cells (madeCells #[.int .u64 0] n) 74)).cell? ⟨p, 0, none⟩ = some (.slice a n c) := (((Only.refl (fun _ => False) w).alloc _).cell (p := ⟨p, 0, none⟩) hpg id).trans (by rw [← ha] at c0; exact c0)
  clear h hc hf hfb hrd
  subst ha
  have HGN : Hid ((w.alloc (.cells (madeCells #[.int .u64 0] n) 74)).heap[g]? = some (.cells (madeCells #[.int .u64 0] n) 74 (0, 0))) := Lib.hid (heap_alloc_new' w _ g hg.symm)
  have HGS : Hid (0 + n ≤ (madeCells #[.int .u64 0] n).size) := Lib.hid (by simp [madeCells])
  go_enter Tryz.func95, Tryz.ntmps95
  go_wp2_with (with_reducible refine wpList_copy n rfl _ _ _ _ rfl slBl rfl HGN.out rfl (HRD.out.keep ((Only.refl _ _).alloc _) (fun _ _ => id)) (Nat.min_self n).symm HGS.out ?_)
  intro w2 hb2 ho2
  have hne : p ≠ g := by omega
  have hgn := HGN.out
  have HG : Hid (Own 74 1 w2 (some ⟨g, 0, none⟩) n n (U ws) ∧ Same w w2) := Lib.hid (by
    have h1 := Own.of_block (e := 74) (size := 1) hgn n n (Nat.le_refl _) (by unfold maxLen; omega) (by simp [madeCells]) (by intro u hu; exact U_one (List.replicate n 0) u (by rw [← U_zeros]; exact List.mem_of_mem_take hu))
    have hb3 : w2.heap[g]? = some (.cells ((madeCells #[.int .u64 0] n).toList.take 0 ++ (U ws).take n ++ (madeCells #[.int .u64 0] n).toList.drop (0 + n)).toArray 74 (0, 0)) := by rw [hb2]; simp
    have h2 := Own.over (off := 0) (ys := (U ws).take n) (k := n) h1 hgn hb3 (by rw [List.length_take, U_len, HN.out]; omega) (by omega) (fun u hu => U_one _ u (List.mem_of_mem_take hu))
    rw [List.take_zero, List.nil_append, List.take_of_length_le (by rw [U_len, HN.out]; omega)] at h2
    exact ⟨h2, new_only (S := fun j => j = g) ((Only.refl _ _).alloc _) ho2 (fun j hj => by omega)⟩)
  have d1 : w2.cell? ⟨p, 1, none⟩ = some (.int .u64 (lo : Int)) := (HG.out.2.cell (p := ⟨p, 1, none⟩) hpg id).trans c1
  have d2 : w2.cell? ⟨p, 2, none⟩ = some (.int .u64 (hi : Int)) := (HG.out.2.cell (p := ⟨p, 2, none⟩) hpg id).trans c2
  have d3 : w2.cell? ⟨p, 3, none⟩ = some (.bool any) := (HG.out.2.cell (p := ⟨p, 3, none⟩) hpg id).trans c3
  have HGL : Hid (w.heap.size ≤ g) := Lib.hid (by omega)
  clear hb2 ho2 c0' c0 c1 c2 c3 hmk hgn hg
  go_wp2_with fail
  refine wp_region_still_tail 14 (by kernel_rfl) (by kernel_rfl) ?_
  simp only [List.take_succ_cons, List.take_zero, List.drop_succ_cons, List.drop_zero]
  repeat still_step
  refine wpStill_nil ?_
  go_wp2_with fail
  go_ret
  have hg2 := HG.out.1.lt g rfl
  have hA := Arr.dense (w := (w2.alloc (.cells #[.slice (some ⟨g, 0, none⟩) n n, .int .u64 (lo : Int), .int .u64 (hi : Int), .bool any] 90)).drew) w2.heap.size (some ⟨g, 0, none⟩) n ws lo hi any l ⟨by rw [HN.out]; exact heap_alloc_new' w2 _ _ rfl, by rw [HN.out]; exact HG.out.1.keep (((Only.refl (fun _ => False) w2).alloc _).drew) (fun _ _ => id), H.out.ok, by simp, fun e => by have : g = w2.heap.size := e; omega, H.out.sm⟩ hr he
  rw [HN.out] at hA
  refine ⟨_, _, _, rfl, hA, (HG.out.2.alloc _).drew, ?_⟩
  · rintro k (rfl | hk)
    · exact HG.out.2.size
    · have : g = k := hk
      have := HGL.out; omega
set_option maxRecDepth 100000 in
set_option maxHeartbeats 1600000 in
theorem maxU2 (g c x y : Nat) (w : World) (h0 : w.cell? ⟨g, 0, none⟩ = some (.int .u64 (x : Int))) (h1 : w.cell? ⟨g, 1, none⟩ = some (.int .u64 (y : Int))) :
    Calls Tryz.prog 96 #[.slice (some ⟨g, 0, none⟩) 2 c] w fun e w' => e = .returned (.int .u64 ((max x y : Nat) : Int)) ∧ w = w' := by
  go_enter Tryz.func96, Tryz.ntmps96
  go_wp2_with fail
  go_loop [3, 4] (fun m i => (i = .int .i64 1 ∧ m = .int .u64 (x : Int)) ∨ (i = .int .i64 2 ∧ m = .int .u64 ((max x y : Nat) : Int))) (fun _ i => (2 - intOf i).toNat)
  case atStart => exact .inl ⟨rfl, rfl⟩
  case round =>
    rcases hrel with ⟨rfl, rfl⟩ | ⟨rfl, rfl⟩
    · by_cases hxy : x < y
      · have hxy' : (x : Int) < (y : Int) := by omega
        have hm : max x y = y := by omega
        rw [hm]
        clear hm
        go_wp2_with fail
        go_round
        case rel => exact .inr ⟨rfl, rfl⟩
        case measure => simp [intOf]
      · have hxy' : ¬ (x : Int) < (y : Int) := by omega
        have hm : max x y = x := by omega
        rw [hm]
        clear hm
        go_wp2_with fail
        go_round
        case rel => exact .inr ⟨rfl, rfl⟩
        case measure => simp [intOf]
    · go_wp2_with fail
      go_ret
      exact ⟨rfl, rfl⟩
/-- how many words an Or has -/
def orWords (l1 l2 : List Nat) (n1 n2 : Nat) : Nat := if l1 = [] then n2 else if l2 = [] then n1 else max n1 n2
theorem orL_nil {l : List Nat} (h : Asc l) : orL [] l = l := (orL_spec l Asc.nil).1.eq h (fun k => by rw [(orL_spec l Asc.nil).2]; simp)
abbrev orW_ (ws1 ws2 : List Nat) (j : Nat) : Nat := ws1.getD j 0 ||| ws2.getD j 0
theorem getD_far (ws : List Nat) (j : Nat) (h : ws.length ≤ j) : ws.getD j 0 = 0 := by rw [List.getD_eq_getElem?_getD, List.getElem?_eq_none h]; rfl
theorem or_tail1 {ws1 ws2 : List Nat} {k : Nat} (h1 : ws1.length = k) (h : k ≤ ws2.length) : (tab (orW_ ws1 ws2) k ws2.length).take k ++ ws2.drop k = tab (orW_ ws1 ws2) ws2.length ws2.length := by
  apply List.ext_getElem?
  intro j
  rw [List.getElem?_append, List.length_take, tab_len]
  by_cases hj : j < k
  · rw [if_pos (by omega), List.getElem?_take, if_pos hj]
    simp only [tab, List.getElem?_map]
    rw [List.getElem?_range (by omega)]
    simp only [Option.map_some, hj, if_true, show j < ws2.length by omega]
  · rw [if_neg (by omega), List.getElem?_drop, show k + (j - min k ws2.length) = j by omega]
    simp only [tab, List.getElem?_map]
    by_cases hl : j < ws2.length
    · rw [List.getElem?_range hl]
      simp only [Option.map_some, hl, if_true, orW_]
      rw [getD_far ws1 j (by omega), Nat.zero_or, List.getD_eq_getElem?_getD, List.getElem?_eq_getElem hl]; rfl
    · rw [List.getElem?_eq_none (by omega), List.getElem?_eq_none (by simpa using hl)]; rfl
theorem or_tail2 {ws1 ws2 : List Nat} {k : Nat} (h1 : ws2.length = k) (h : k ≤ ws1.length) : (tab (orW_ ws1 ws2) k ws1.length).take k ++ ws1.drop k = tab (orW_ ws1 ws2) ws1.length ws1.length := by
  have e : orW_ ws1 ws2 = orW_ ws2 ws1 := by funext j; exact Nat.or_comm _ _
  rw [e]; exact or_tail1 h1 h
set_option maxRecDepth 100000 in
set_option maxHeartbeats 3200000 in
theorem orBoth {w : World} {p1 c1 lo1 hi1 p2 c2 lo2 hi2 : Nat} {a1 a2 : Option Addr} {ws1 ws2 : List Nat} (h1 : Dn w p1 a1 c1 ws1 lo1 hi1 true) (h2 : Dn w p2 a2 c2 ws2 lo2 hi2 true) (hl1 : ws1.length ≠ 0) (hl2 : ws2.length ≠ 0) :
    Calls Tryz.prog 82 #[.pointer (some ⟨p1, 0, none⟩), .pointer (some ⟨p2, 0, none⟩)] w (ResD (tab (orW_ ws1 ws2) (max ws1.length ws2.length) (max ws1.length ws2.length)) w) := by
  have H1 := Lib.hid h1
  have H2 := Lib.hid h2
  have HC1 : Hid (Calls Tryz.prog 57 #[.pointer (some ⟨p1, 0, none⟩)] w fun e w' => e = .returned (.int .u64 ((64 * ws1.length : Nat) : Int)) ∧ w = w') := Lib.hid ((capD h1).mono fun e w' h => ⟨h.1, h.2.symm⟩)
  have HC2 : Hid (Calls Tryz.prog 57 #[.pointer (some ⟨p2, 0, none⟩)] w fun e w' => e = .returned (.int .u64 ((64 * ws2.length : Nat) : Int)) ∧ w = w') := Lib.hid ((capD h2).mono fun e w' h => ⟨h.1, h.2.symm⟩)
  obtain ⟨b1, ha1, hb1, _, c10, _, _, c13, _, _, _⟩ := h1.facts
  obtain ⟨b2, ha2, hb2, _, c20, _, _, c23, _, _, _⟩ := h2.facts
  have hsm1 := h1.sm
  have hsm2 := h2.sm
  have hbd1 := h1.row.bound
  have hbd2 := h2.row.bound
  obtain ⟨n1, HN⟩ : ∃ n1, Hid (ws1.length = n1) := ⟨_, Lib.hid rfl⟩
  obtain ⟨n2, HN2⟩ : ∃ n2, Hid (ws2.length = n2) := ⟨_, Lib.hid rfl⟩
  rw [HN.out] at c10 hsm1 hbd1 hl1 HC1
  rw [HN2.out] at c20 hsm2 hbd2 hl2 HC2
  rw [HN.out, HN2.out]
  obtain ⟨N, HNN⟩ : ∃ N, Hid (max n1 n2 = N) := ⟨_, Lib.hid rfl⟩
  rw [HNN.out]
  have hN : N ≤ 1000000 ∧ n1 ≤ N ∧ n2 ≤ N ∧ 1 ≤ N := by have := HNN.out; omega
  obtain ⟨hN1, hN2, hN3, hN4⟩ := hN
  have HLF : Hid (∀ j, Lt64 (orW_ ws1 ws2 j)) := Lib.hid (fun j => lt64_or (h1.ok.at j) (h2.ok.at j))
  have e1 : IntKind.u64.wrap (n1 : Int) = (n1 : Int) := by rw [IntKind.wrap_u64]; omega
  have e2 : IntKind.u64.wrap (n2 : Int) = (n2 : Int) := by rw [IntKind.wrap_u64]; omega
  have e3 : IntKind.u64.wrap ((N : Int) * 64) = ((64 * N : Nat) : Int) := by rw [IntKind.wrap_u64]; omega
  have z1 : (((64 * n1 : Nat) : Int) == 0) = false := by rw [beq_eq_false_iff_ne]; omega
  have z2 : (((64 * n2 : Nat) : Int) == 0) = false := by rw [beq_eq_false_iff_ne]; omega
  have HNEW : Hid (∀ wx, Calls Tryz.prog 36 #[.int .u64 ((64 * N : Nat) : Int), .slice none 0 0] wx (NewD (tab (orW_ ws1 ws2) 0 N) 0 0 false wx)) := Lib.hid (fun wx => by
    have := newD0 (64 * N) (by omega) none 0 0 wx (.inl rfl)
    rw [show (64 * N + 63) / 64 = N by omega] at this
    rw [tab_zero]; exact this)
  generalize 64 * n1 = m1 at *
  generalize 64 * n2 = m2 at *
  generalize 64 * N = m3 at *
  have HMX : Hid (∀ wx g c, wx.cell? ⟨g, 0, none⟩ = some (.int .u64 (n1 : Int)) → wx.cell? ⟨g, 1, none⟩ = some (.int .u64 (n2 : Int)) → Calls Tryz.prog 96 #[.slice (some ⟨g, 0, none⟩) 2 c] wx fun e w' => e = .returned (.int .u64 (N : Int)) ∧ wx = w') := Lib.hid (fun wx g c h1 h2 => by
    have := maxU2 g c n1 n2 wx h1 h2
    rw [HNN.out] at this
    exact this)
  clear h1 h2
  subst ha1
  subst ha2
  go_enter Tryz.func82, Tryz.ntmps82
  go_wp2_with (go_at_call 57; refine HC1.out.mono ?_)
  rintro e w' ⟨rfl, rfl⟩
  go_wp2_with (go_at_call 57; refine HC2.out.mono ?_)
  rintro e w' ⟨rfl, rfl⟩
  clear HC1 HC2
  go_wp2_with fail
  refine wp_region_still_tail 12 (by kernel_rfl) (by kernel_rfl) ?_
  simp only [List.take_succ_cons, List.take_zero, List.drop_succ_cons, List.drop_zero]
  repeat still_step
  refine wpStill_nil ?_
  go_wp2_with (go_at_call 96; refine (HMX.out _ _ _ ?_ ?_).mono ?_)
  · exact block_cell (heap_alloc_new w (.cells #[.int .u64 (n1 : Int), .int .u64 (n2 : Int)] 34)) rfl
  · exact block_cell (heap_alloc_new w (.cells #[.int .u64 (n1 : Int), .int .u64 (n2 : Int)] 34)) rfl
  rintro e w2 ⟨rfl, rfl⟩
  clear c13 c23 z1 z2 HMX
  go_wp2_with (go_at_call 36; refine (HNEW.out _).mono ?_)
  rintro e w1 ⟨p3, a3, c3, rfl, hd3, hs1, hf3⟩
  have HS1 : Hid (Same w w1 ∧ ∀ k, Ft p3 a3 k → w.heap.size ≤ k) := Lib.hid (by
    have hA := ((Only.refl (fun _ => False) w).drew).alloc (.cells #[.int .u64 (n1 : Int), .int .u64 (n2 : Int)] 34)
    exact ⟨Same.trans hA hs1, fun k hk => Nat.le_trans hA.size (hf3 k hk)⟩)
  have HI0 : Hid (Dn w1 p3 a3 c3 (tab (orW_ ws1 ws2) 0 N) 0 0 false ∧ Only (Ft p3 a3) w1 w1) := Lib.hid ⟨hd3, Only.refl _ _⟩
  clear hd3 hs1 hf3 HNEW
  have hap : Hid (∀ {p : Nat} {a : Option Addr}, (∀ j, Ft p a j → j < w.heap.size) → ∀ j, Ft p a j → ¬ Ft p3 a3 j) := Lib.hid (fun hl j hj hf => by have := hl j hj; have := HS1.out.2 j hf; omega)
  go_upto_block 0 with fail
  go_cut [7] (fun _ wx => Hid (Dn wx p3 a3 c3 (tab (orW_ ws1 ws2) N N) 0 0 false ∧ Only (Ft p3 a3) w1 wx))
  case first =>
    go_wp2_with fail
    go_loopw [7] (fun i wr => ∃ k : Nat, k ≤ N ∧ k ≤ n1 ∧ k ≤ n2 ∧ i = .int .u64 (k : Int) ∧ Hid (Dn wr p3 a3 c3 (tab (orW_ ws1 ws2) k N) 0 0 false ∧ Only (Ft p3 a3) w1 wr)) (fun i _ => N - (intOf i).toNat)
    case atStart => exact ⟨0, Nat.zero_le _, Nat.zero_le _, Nat.zero_le _, rfl, HI0⟩
    case round =>
      clear HI0
      obtain ⟨k, hk, hk1, hk2, rfl, HI⟩ := hrel
      have hk0 : (0 : Int) ≤ (k : Int) := by omega
      have HD1 : Hid (Dn wr p1 (some ⟨b1, 0, none⟩) c1 ws1 lo1 hi1 true) := Lib.hid ((H1.out.still HS1.out.1).keep HI.out.2 (hap.out H1.out.lt))
      have HD2 : Hid (Dn wr p2 (some ⟨b2, 0, none⟩) c2 ws2 lo2 hi2 true) := Lib.hid ((H2.out.still HS1.out.1).keep HI.out.2 (hap.out H2.out.lt))
      obtain ⟨_, q1, _, _, d0, _, _, _, _, hc1, _⟩ := HD1.out.facts
      cases q1
      obtain ⟨_, q2, _, _, e0, _, _, _, _, hc2, _⟩ := HD2.out.facts
      cases q2
      obtain ⟨b3, ha3, hb3, hb3p, g0, _, _, _, _, hc3, hfb⟩ := HI.out.1.facts
      rw [HN.out] at d0
      rw [HN2.out] at e0
      rw [tab_len] at g0
      by_cases hkN : k = N
      · subst hkN
        have hkn' : ¬ (k : Int) < (k : Int) := by omega
        go_wp2_with fail
        go_meet
        exact HI
      · have hkN' : (k : Int) < (N : Int) := by omega
        by_cases hk3 : k = n1
        · subst hk3
          obtain ⟨cur, hcur, hcs⟩ := own_block (ha3 ▸ HI.out.1.row)
          have HRS : Hid (Rd 1 wr (some ⟨b2, k, none⟩) (n2 - k) (c2 - k) ((U ws2).drop k)) := Lib.hid (by
            have := HD2.out.row.rd.drop (k := k) (by rw [HN2.out]; exact hk2)
            rw [HN2.out, Nat.mul_one, Nat.zero_add] at this
            exact this)
          have hc3 := HI.out.1.row.bound
          rw [tab_len] at hc3
          have HCUR := Lib.hid hcur
          have hk5 : k < n2 := by have := HNN.out; omega
          have HK6 : Hid (N = n2) := Lib.hid (by have := HNN.out; omega)
          have hc4 : ¬ c2 = k := by omega
          have hc5 : ¬ c3 = k := by omega
          have e4 : (k : Int) ≤ (c2 : Int) := by omega
          have e5 : (k : Int) ≤ (c3 : Int) := by omega
          have HFIT : Hid (k + (N - k) ≤ cur.size) := Lib.hid (by omega)
          have HST : Hid (∀ w', w'.heap[b3]? = some (.cells (cur.toList.take k ++ ((U ws2).drop k).take (N - k) ++ cur.toList.drop (k + (N - k))).toArray 74 (0, 0)) → Only (fun j => j = b3) wr w' → Dn w' p3 a3 c3 (tab (orW_ ws1 ws2) N N) 0 0 false ∧ Only (Ft p3 a3) w1 w') := Lib.hid (fun w' hw' ho' => by
            have hl2 : ws2.length = N := by rw [HN2.out]; exact HK6.out.symm
            have h4 : ((U ws2).drop k).take (N - k) = U (ws2.drop k) := by rw [U_drop, List.take_of_length_le]; rw [U_len, List.length_drop]; omega
            rw [h4] at hw'
            have h5 := Dn.over (ha3 ▸ HI.out.1) hcur hw' (by rw [List.length_drop]; omega) (by rw [tab_len]; omega) (fun v hv => H2.out.ok v (List.mem_of_mem_drop hv)) ho'
            have h6 := or_tail1 (ws1 := ws1) (ws2 := ws2) HN.out (by omega)
            rw [hl2] at h6
            rw [h6] at h5
            exact ⟨by rw [ha3]; exact h5, HI.out.2.trans ho' (fun j _ e => .inr (by rw [ha3]; exact e.symm))⟩)
          subst ha3
          clear hc1 hc2 hc3 hfb hcur
          go_wp2_with fail
          refine wp_region_still_tail 12 (by kernel_rfl) (by kernel_rfl) ?_
          simp only [List.take_succ_cons, List.take_zero, List.drop_succ_cons, List.drop_zero]
          repeat still_step
          refine wpStill_nil ?_
          refine wpList_copy (N - k) rfl _ _ _ _ rfl slB2 rfl HCUR.out rfl (HRS.out.of_heap rfl) (by rw [HK6.out, Nat.min_self]) HFIT.out ?_
          intro w5 hw5 ho5
          have HF := Lib.hid (HST.out w5 hw5 ⟨ho5.os, ho5.tape, ho5.output, ho5.size, ho5.block⟩)
          clear hw5 ho5 HST
          go_wp2_with fail
          go_meet
          exact HF
        · have hk3' : ((k : Int) == (n1 : Int)) = false := by rw [beq_eq_false_iff_ne]; omega
          have hk33 : k < n1 := by omega
          by_cases hk4 : k = n2
          · subst hk4
            obtain ⟨cur, hcur, hcs⟩ := own_block (ha3 ▸ HI.out.1.row)
            have HRS : Hid (Rd 1 wr (some ⟨b1, k, none⟩) (n1 - k) (c1 - k) ((U ws1).drop k)) := Lib.hid (by
              have := HD1.out.row.rd.drop (k := k) (by rw [HN.out]; exact hk1)
              rw [HN.out, Nat.mul_one, Nat.zero_add] at this
              exact this)
            have hc3 := HI.out.1.row.bound
            rw [tab_len] at hc3
            have HCUR := Lib.hid hcur
            have hk5 : k < n1 := by have := HNN.out; omega
            have HK6 : Hid (N = n1) := Lib.hid (by have := HNN.out; omega)
            have hc4 : ¬ c1 = k := by omega
            have hc5 : ¬ c3 = k := by omega
            have e4 : (k : Int) ≤ (c1 : Int) := by omega
            have e5 : (k : Int) ≤ (c3 : Int) := by omega
            have HFIT : Hid (k + (N - k) ≤ cur.size) := Lib.hid (by omega)
            have HST : Hid (∀ w', w'.heap[b3]? = some (.cells (cur.toList.take k ++ ((U ws1).drop k).take (N - k) ++ cur.toList.drop (k + (N - k))).toArray 74 (0, 0)) → Only (fun j => j = b3) wr w' → Dn w' p3 a3 c3 (tab (orW_ ws1 ws2) N N) 0 0 false ∧ Only (Ft p3 a3) w1 w') := Lib.hid (fun w' hw' ho' => by
              have hl1 : ws1.length = N := by rw [HN.out]; exact HK6.out.symm
              have h4 : ((U ws1).drop k).take (N - k) = U (ws1.drop k) := by rw [U_drop, List.take_of_length_le]; rw [U_len, List.length_drop]; omega
              rw [h4] at hw'
              have h5 := Dn.over (ha3 ▸ HI.out.1) hcur hw' (by rw [List.length_drop]; omega) (by rw [tab_len]; omega) (fun v hv => H1.out.ok v (List.mem_of_mem_drop hv)) ho'
              have h6 := or_tail2 (ws1 := ws1) (ws2 := ws2) HN2.out (by omega)
              rw [hl1] at h6
              rw [h6] at h5
              exact ⟨by rw [ha3]; exact h5, HI.out.2.trans ho' (fun j _ e => .inr (by rw [ha3]; exact e.symm))⟩)
            subst ha3
            clear hc1 hc2 hc3 hfb hcur
            go_wp2_with fail
            refine wp_region_still_tail 12 (by kernel_rfl) (by kernel_rfl) ?_
            simp only [List.take_succ_cons, List.take_zero, List.drop_succ_cons, List.drop_zero]
            repeat still_step
            refine wpStill_nil ?_
            refine wpList_copy (N - k) rfl _ _ _ _ rfl slB2 rfl HCUR.out rfl (HRS.out.of_heap rfl) (by rw [HK6.out, Nat.min_self]) HFIT.out ?_
            intro w5 hw5 ho5
            have HF := Lib.hid (HST.out w5 hw5 ⟨ho5.os, ho5.tape, ho5.output, ho5.size, ho5.block⟩)
            clear hw5 ho5 HST
            go_wp2_with fail
            go_meet
            exact HF
          · have hk4' : ((k : Int) == (n2 : Int)) = false := by rw [beq_eq_false_iff_ne]; omega
            have hk44 : k < n2 := by omega
            have hk1' : (k : Int) < (n1 : Int) := by omega
            have hk2' : (k : Int) < (n2 : Int) := by omega
            have d1 := hc1 k (by rw [HN.out]; omega)
            have e9 := hc2 k (by rw [HN2.out]; omega)
            have g1 := hc3 k (by rw [tab_len]; omega)
            have f1 := hfb k
            have hz : (tab (orW_ ws1 ws2) k N).getD k 0 = 0 := by rw [tab_get, if_neg (by omega)]
            rw [hz] at g1
            have HOP : Hid (∀ wx, Calls Tryz.prog 97 #[.int .u64 ((ws1.getD k 0 : Nat) : Int), .int .u64 ((ws2.getD k 0 : Nat) : Int)] wx fun e w' => e = .returned (.int .u64 ((orW_ ws1 ws2 k : Nat) : Int)) ∧ w' = wx) := Lib.hid (fun wx => orW _ _ (H1.out.ok.at k) (H2.out.ok.at k) wx)
            have HST : Hid (∀ w', w' = (wr.setCell ⟨b3, k, none⟩ (.int .u64 ((orW_ ws1 ws2 k : Nat) : Int))).drew → Dn w' p3 a3 c3 (tab (orW_ ws1 ws2) (k + 1) N) 0 0 false ∧ Only (Ft p3 a3) w1 w') := Lib.hid (by
              rintro w' rfl
              obtain ⟨q1, q2⟩ := HI.out.1.put ha3 k (orW_ ws1 ws2 k) (by rw [tab_len]; omega) (HLF.out k) (Only.refl _ _) HI.out.1.obj
              rw [tab_set _ _ _ (by omega)] at q1
              exact ⟨q1.still ((Only.refl _ _).drew), (HI.out.2.trans q2 (fun _ _ h => h)).drew⟩)
            clear hc1 hc2 hc3 hfb hz
            generalize orW_ ws1 ws2 k = y at *
            generalize ws1.getD k 0 = x1 at *
            generalize ws2.getD k 0 = x2 at *
            subst ha3
            go_wp2_with fail
            refine wp_region_still_tail 21 (by kernel_rfl) (by kernel_rfl) ?_
            simp only [List.take_succ_cons, List.take_zero, List.drop_succ_cons, List.drop_zero]
            repeat still_step
            still_call (HOP.out _)
            repeat still_step
            refine wpStill_nil ?_
            go_wp2_with fail
            exact ⟨⟨k + 1, by omega, by omega, by omega, by go_num, Lib.hid (HST.out _ rfl)⟩, by first | (simp [intOf]; done) | (simp [intOf]; omega)⟩
  case rest =>
    clear HI0
    have HI := Lib.hid hcut.out
    have HLO := Lib.hid (setLowest HI.out.1)
    clear hcut HLF H1 H2 HN HN2 HNN hN1 hN2 hN3 hN4 hsm1 hsm2 hbd1 hbd2 hl1 hl2 e1 e2 e3 hap c10 c20
    go_wp2_with fail
    refine HLO.out.mono ?_
    rintro e w2 ⟨rfl, ho2, hlo⟩
    have HO2 := Lib.hid ho2
    clear ho2
    rcases hlo with ⟨hnb, hd⟩ | ⟨lo, hlo, hd⟩
    · have HNB := Lib.hid hnb
      have HHI := Lib.hid (setHighest hd)
      clear hnb hd
      go_wp2_with fail
      refine HHI.out.mono ?_
      rintro e w3 ⟨rfl, ho3, hhi⟩
      rcases hhi with ⟨_, hd⟩ | ⟨hi, hhi, _⟩
      · have HD := Lib.hid hd
        clear hd
        have HS : Hid (Same w w3) := Lib.hid (new_only4 HS1.out HI.out.2 HO2.out ho3)
        clear ho3
        go_wp2_with fail
        go_ret
        exact ⟨p3, a3, c3, 0, 0, false, rfl, HD.out, .inl ⟨HNB.out, rfl, rfl, rfl⟩, HS.out, HS1.out.2⟩
      · have := hhi.1; rw [HNB.out hi] at this; cases this
    · have HNB := Lib.hid hlo
      have HHI := Lib.hid (setHighest hd)
      clear hlo hd
      go_wp2_with fail
      refine HHI.out.mono ?_
      rintro e w3 ⟨rfl, ho3, hhi⟩
      rcases hhi with ⟨hnb, _⟩ | ⟨hi, hhi, hd⟩
      · have := HNB.out.1; rw [hnb lo] at this; cases this
      · have HD := Lib.hid hd
        have HH := Lib.hid hhi
        clear hd hhi
        have HS : Hid (Same w w3) := Lib.hid (new_only4 HS1.out HI.out.2 HO2.out ho3)
        clear ho3
        go_wp2_with fail
        go_ret
        exact ⟨p3, a3, c3, lo, hi, true, rfl, HD.out, .inr ⟨HNB.out, HH.out, rfl⟩, HS.out, HS1.out.2⟩
end Go.Proofs.YtacjkbljokjdkaaGreat.ba
namespace Go.Proofs.YtacjkbljokjdkaaGreat.ba
open Go.RowKit Go.Proofs.YtacjkbljokjdkaaGreat.base Go.Proofs.YtacjkbljokjdkaaGreat.heap Go.Proofs.YtacjkbljokjdkaaGreat.rows Go.Proofs.YtacjkbljokjdkaaGreat.bit Go.Proofs.YtacjkbljokjdkaaGreat.bs
set_option linter.unusedVariables false
section
variable {w : World} {a : Option Addr} {n cap : Nat} {l : List Nat}
set_option maxRecDepth 100000 in
set_option maxHeartbeats 1600000 in
theorem searchQ (h : RL uv w a n cap l) (x : Nat) (bu bx : Nat) (hu : w.cell? ⟨bu, 0, none⟩ = some (.slice a n cap)) (hx : w.cell? ⟨bx, 0, none⟩ = some (uv x)) (i y : Nat) (hy : l[i]? = some y) :
    Calls Tryz.prog 126 #[.int .i64 (i : Int), .pointer (some ⟨bu, 0, none⟩), .pointer (some ⟨bx, 0, none⟩)] w fun e w' => e = .returned (.bool (decide (x ≤ y))) ∧ ∃ m, w' = w.drewN m := by
  have hi := (List.getElem?_eq_some_iff.1 hy).1
  rw [h.2] at hi
  have hi' : (i : Int) < (n : Int) := by omega
  have hi0 : (0 : Int) ≤ (i : Int) := by omega
  obtain ⟨b, off, ha, hb, hc⟩ := h.at (by omega)
  have c0 := hc i y hy
  subst ha
  unfold uv at hx c0
  clear h hc hy
  go_enter Tryz.func126, Tryz.ntmps126
  go_wp2_with fail
  go_quiet (fail)
  go_wp2_with fail
  go_ret
  exact ⟨rfl, _, rfl⟩
set_option maxRecDepth 100000 in
set_option maxHeartbeats 1600000 in
theorem sortSearch (h : RL uv w a n cap l) (hs : Asc l) (x : Nat) (hn : n ≤ 1000000) (bu bx : Nat) (hu : w.cell? ⟨bu, 0, none⟩ = some (.slice a n cap)) (hx : w.cell? ⟨bx, 0, none⟩ = some (uv x)) :
    Calls Tryz.prog 125 #[.int .i64 (n : Int), .func (Fn.func 126) #[] #[.pointer (some ⟨bu, 0, none⟩), .pointer (some ⟨bx, 0, none⟩)]] w (fun e w' => e = .returned (.int .i64 (at_ l x : Nat)) ∧ ∃ m, w' = w.drewN m) := by
  have HQ : Hid (∀ (m i y : Nat), l[i]? = some y → Calls Tryz.prog 126 #[.int .i64 (i : Int), .pointer (some ⟨bu, 0, none⟩), .pointer (some ⟨bx, 0, none⟩)] (w.drewN m) fun e w' => e = .returned (.bool (decide (x ≤ y))) ∧ ∃ k, w' = (w.drewN m).drewN k) :=
    Lib.hid (fun m i y hy => searchQ ⟨h.1.drewN m, h.2⟩ x bu bx hu hx i y hy)
  have HL := Lib.hid h.2
  have HS := Lib.hid hs
  clear h hu hx hs
  go_enter Tryz.func125, Tryz.ntmps125
  go_wp2_with fail
  go_loopw [5, 6] (fun i j wr => ∃ lo hi : Nat, lo ≤ hi ∧ hi ≤ n ∧ i = .int .i64 (lo : Int) ∧ j = .int .i64 (hi : Int) ∧ Hid ((∃ m, wr = w.drewN m) ∧ (∀ t y, t < lo → l[t]? = some y → y < x) ∧ ∀ t y, hi ≤ t → l[t]? = some y → x ≤ y)) (fun i j _ => (intOf j - intOf i).toNat)
  case atStart => exact ⟨0, n, Nat.zero_le _, Nat.le_refl _, rfl, rfl, Lib.hid ⟨⟨0, rfl⟩, fun t y ht => absurd ht (by omega), fun t y ht hy => by have := (List.getElem?_eq_some_iff.1 hy).1; have := HL.out; omega⟩⟩
  case round =>
    obtain ⟨lo, hi, hlh, hhn, rfl, rfl, HO⟩ := hrel
    obtain ⟨m, hm⟩ := HO.out.1
    subst hm
    have HO2 := Lib.hid HO.out.2
    clear HO
    by_cases hlt : lo < hi
    · obtain ⟨k, HK⟩ : ∃ k, Hid (k = (lo + hi) / 2) := ⟨_, Lib.hid rfl⟩
      have hk1 : lo ≤ k ∧ k < hi := by have := HK.out; omega
      obtain ⟨y, hy⟩ : ∃ y, l[k]? = some y := ⟨l[k]'(by have := HL.out; omega), List.getElem?_eq_getElem _⟩
      have HQQ := Lib.hid (HQ.out m k y hy)
      have HY := Lib.hid hy
      have hkd : ((lo : Int) + (hi : Int)) / 2 = (k : Int) := by have := HK.out; omega
      have hlt' : (lo : Int) < (hi : Int) := by omega
      clear hy
      by_cases hxy : x ≤ y
      · have HO3 : Hid ((∀ t y, t < lo → l[t]? = some y → y < x) ∧ ∀ t y, k ≤ t → l[t]? = some y → x ≤ y) := Lib.hid ⟨HO2.out.1, fun t z ht hz => by
          rcases Nat.lt_or_eq_of_le ht with h1 | h1
          · have := HS.out.get h1 HY.out hz; omega
          · subst h1; rw [HY.out] at hz; cases hz; exact hxy⟩
        have hd : decide (x ≤ y) = true := by simp [hxy]
        rw [hd] at HQQ
        clear hd hxy
        go_wp2_with (go_at_call 126; refine HQQ.out.mono ?_)
        rintro e w2 ⟨rfl, q, rfl⟩
        go_wp2_with fail
        go_roundw
        case rel => exact ⟨lo, k, by omega, by omega, rfl, rfl, Lib.hid ⟨⟨m + q, rfl⟩, HO3.out⟩⟩
        case measure => simp [intOf]; omega
      · have HO3 : Hid ((∀ t y, t < k + 1 → l[t]? = some y → y < x) ∧ ∀ t y, hi ≤ t → l[t]? = some y → x ≤ y) := Lib.hid ⟨fun t z ht hz => by
          rcases Nat.lt_or_eq_of_le (Nat.lt_succ_iff.1 ht) with h1 | h1
          · have := HS.out.get h1 hz HY.out; omega
          · subst h1; rw [HY.out] at hz; cases hz; omega, HO2.out.2⟩
        have hd : decide (x ≤ y) = false := by simp [hxy]
        rw [hd] at HQQ
        clear hd hxy
        go_wp2_with (go_at_call 126; refine HQQ.out.mono ?_)
        rintro e w2 ⟨rfl, q, rfl⟩
        go_wp2_with fail
        go_roundw
        case rel => exact ⟨k + 1, hi, by omega, by omega, by go_num, rfl, Lib.hid ⟨⟨m + q, rfl⟩, HO3.out⟩⟩
        case measure => simp [intOf]; omega
    · obtain rfl : lo = hi := by omega
      have hlt' : ¬ (lo : Int) < (lo : Int) := by omega
      have HE : Hid (at_ l x = lo) := Lib.hid (at_eq (by have := HL.out; omega) HO2.out.1 (fun y hy => HO2.out.2 lo y (Nat.le_refl _) hy))
      go_wp2_with fail
      go_ret
      exact ⟨by rw [HE.out]; rfl, _, rfl⟩
set_option maxRecDepth 100000 in
set_option maxHeartbeats 1600000 in
/-- the place of x -/
theorem searchU (h : RL uv w a n cap l) (hs : Asc l) (x : Nat) (hn : n ≤ 1000000) : Calls Tryz.prog 118 #[.slice a n cap, .int .u64 (x : Int)] w (FV w (.int .i64 (at_ l x : Nat))) := by
  have hS : Same w ((w.alloc (.cells #[.slice a n cap] 92)).alloc (.cells #[.int .u64 (x : Int)] 34)) := ((Only.refl _ _).alloc _).alloc _
  have HC := Lib.hid (sortSearch (h.still hS) hs x hn w.heap.size (w.heap.size + 1) (block_cell (((Only.refl (fun _ => False) _).alloc _).obj (heap_alloc_new w _) id) rfl) (block_cell (heap_alloc_new' _ _ _ (by simp)) rfl))
  have HS := Lib.hid hS
  obtain ⟨k, hk⟩ : ∃ k, at_ l x = k := ⟨_, rfl⟩
  have hkn : k ≤ n := by rw [← hk, ← h.2]; exact at_le l x
  rw [hk] at HC ⊢
  have hbd := h.bound
  clear h hs hS hk
  go_enter Tryz.func118, Tryz.ntmps118
  go_wp2_with (go_at_call 125; refine HC.out.mono ?_)
  rintro e w1 ⟨rfl, m, rfl⟩
  go_wp2_with fail
  go_ret
  exact ⟨rfl, HS.out.drewN _⟩
end
end Go.Proofs.YtacjkbljokjdkaaGreat.ba

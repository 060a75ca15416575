/-
  laws.baAsk over any two arrays.
-/
import Derived.Test.YtacjkbljokjdkaaBaTwoW
namespace Go.Proofs.Ytacjkbljokjdkaa.ba
open Go.RowKit Go.Proofs.Ytacjkbljokjdkaa.base Go.Proofs.Ytacjkbljokjdkaa.heap Go.Proofs.Ytacjkbljokjdkaa.rows Go.Proofs.Ytacjkbljokjdkaa.bit Go.Proofs.Ytacjkbljokjdkaa.bs
set_option linter.unusedVariables false
def IsC (isf : Nat) (A B : List Nat) (b : Bool) : Prop := ∀ sa sc sb scb wx, OU wx sa A.length sc A → OU wx sb B.length scb B → Calls Try.prog isf #[.slice sa A.length sc, .slice sb B.length scb] wx (FV wx (.bool b))
def ask1T (op : Nat) : List Stp := [{ op := 10, on := 0 }, { op := op, on := 0, by_ := 1 }]
def ask1Y (A : List Nat) (b : Bool) : List Ans := [{ n := A.length }, { yes := b }]
def ask2T (op : Nat) : List Stp := [{ op := 10, on := 0 }, { op := op, on := 0, by_ := 1 }, { op := op, on := 1, by_ := 0 }]
def ask2Y (A : List Nat) (b : Bool) : List Ans := [{ n := A.length }, { yes := b }, { yes := b }]
set_option maxRecDepth 100000 in
set_option maxHeartbeats 3200000 in
theorem baAskG1 (op : Nat) (x y : Bool) (s1 s2 : Nat) (a ba : Option Addr) (n ca m cb : Nat) (l1 l2 L1 L2 : List Nat) (mk ft m1 q1 m2 q2 : Nat) (b : Bool) (f : Bool) (w : World) (eg1 : ∀ args w, (callFunc mk args).run Try.prog w = .ok (.enter mk args) w) (eg2 : ∀ args w, (callFunc ft args).run Try.prog w = .ok (.enter ft args) w) (h1 : RL uv w a n ca l1) (h2 : RL uv w ba m cb l2)
    (e1 : l1.take 40 = L1) (e2 : l2.take 40 = L2) (M1 : MadeC x s1 0 a n ca l1 m1 q1) (M2 : MadeC y s2 1 ba m cb l2 m2 q2) (HF : FitsC ft x y q1 q2 (madeS x q1 L1) (madeS y q2 L2) f) (HK : IsC mk (madeS x q1 L1) (madeS y q2 L2) b)
    (R : f = true → ∃ Y, Y.length = L1.length + 1 + (L2.length + 1) ∧ Runs [] (madeT x m1 q1 0 L1 ++ madeT y m2 q2 1 L2 ++ ask1T op) (Y ++ ask1Y (madeS x q1 L1) b)) :
    Calls Try.prog 11 #[.int .i64 (op : Int), .bool x, .bool y, .bool false, .agg #[.int .u16 (s1 : Int), .int .u16 (s2 : Int)], .slice a n ca, .slice ba m cb, .func (Fn.func mk) #[] #[], .func (Fn.func ft) #[] #[]] w (FV w (.bool true)) := by
  have hl1 : L1.length ≤ 40 := by rw [← e1, List.length_take]; omega
  have hl2 : L2.length ≤ 40 := by rw [← e2, List.length_take]; omega
  have HM1 : Hid (∀ wx, Same w wx → Calls Try.prog 19 #[.bool x, .int .u16 (s1 : Int), .slice a n ca, .int .i64 0] wx (MadeQ x m1 q1 0 L1 wx)) := Lib.hid (fun wx hS => by have := M1 wx (h1.still hS); rw [e1] at this; exact this)
  have HM2 : Hid (∀ wx, Same w wx → Calls Try.prog 19 #[.bool y, .int .u16 (s2 : Int), .slice ba m cb, .int .i64 1] wx (MadeQ y m2 q2 1 L2 wx)) := Lib.hid (fun wx hS => by have := M2 wx (h2.still hS); rw [e2] at this; exact this)
  have HFF := Lib.hid HF
  have HKK := Lib.hid HK
  have HRR := Lib.hid R
  clear h1 h2 e1 e2 M1 M2 HF HK R
  go_enter Try.func11, Try.ntmps11
  go_wp2_with (go_at_call 19; refine (HM1.out _ ?_).mono ?_)
  · exact (Only.refl _ _).alloc _
  have hbx : (w.alloc (.cells #[.int .u16 (s1 : Int), .int .u16 (s2 : Int)] 37)).heap[w.heap.size]? = _ := heap_alloc_new w _
  have hS0 : Same w (w.alloc (.cells #[.int .u16 (s1 : Int), .int .u16 (s2 : Int)] 37)) := (Only.refl _ _).alloc _
  rintro e w1 ⟨ta, tc, sa, sc, rfl, hT, hS, hs1', hf1⟩
  have hne1 : w.heap.size ≠ w1.heap.size := by have := hs1'.size; simp at this; omega
  have G1 : Hid (∀ O, (w1.alloc O).cell? ⟨w.heap.size, 1, none⟩ = some (.int .u16 (s2 : Int))) := Lib.hid (fun O => block_cell (((Only.refl (fun _ => False) w1).alloc O).obj (hs1'.obj hbx id) id) rfl)
  have HA1 : Hid (OS 27 stc 6 w1 ta (L1.length + 1) tc (madeT x m1 q1 0 L1) ∧ OU w1 sa (madeS x q1 L1).length sc (madeS x q1 L1) ∧ Same w w1 ∧ ∀ i, At ta i → w.heap.size ≤ i ∧ ¬ At sa i) := Lib.hid ⟨hT, hS, Same.trans hS0 hs1', fun i hi => ⟨by have := ((hf1 i).1 hi).1; simp at this; omega, ((hf1 i).1 hi).2⟩⟩
  obtain ⟨A, hA⟩ : ∃ A, madeS x q1 L1 = A := ⟨_, rfl⟩
  have hA1 : A.length ≤ 40 := by have := madeS_len x q1 L1; rw [hA] at this; omega
  rw [hA] at HA1 HFF HKK HRR ⊢
  obtain ⟨j1, HJ1⟩ : ∃ j1, Hid (A.length = j1) := ⟨_, Lib.hid rfl⟩
  rw [HJ1.out] at HA1 hA1 ⊢
  have g1 := G1.out (.cells #[.bool x, .int .u64 (q1 : Int), .slice sa j1 sc] 29)
  have g0 : w1.cell? ⟨w.heap.size, 1, none⟩ = some (.int .u16 (s2 : Int)) := block_cell (hs1'.obj hbx id) rfl
  clear hbx hS0 hT hS hs1' hf1 HM1 hA
  go_wp2_with (go_at_call 19; refine (HM2.out _ ?_).mono ?_)
  · exact HA1.out.2.2.1.alloc _
  have hp1 : (w1.alloc (.cells #[.bool x, .int .u64 (q1 : Int), .slice sa j1 sc] 29)).heap[w1.heap.size]? = _ := heap_alloc_new w1 _
  have hS0 : Same w1 (w1.alloc (.cells #[.bool x, .int .u64 (q1 : Int), .slice sa j1 sc] 29)) := (Only.refl _ _).alloc _
  rintro e w2 ⟨tb, tcb, sb, scb, rfl, hT, hS, hs2', hf2⟩
  obtain ⟨B, hB⟩ : ∃ B, madeS y q2 L2 = B := ⟨_, rfl⟩
  have hB1 : B.length ≤ 40 := by have := madeS_len y q2 L2; rw [hB] at this; omega
  rw [hB] at HFF HKK hS ⊢
  obtain ⟨j2, HJ2⟩ : ∃ j2, Hid (B.length = j2) := ⟨_, Lib.hid rfl⟩
  rw [HJ2.out] at hS hB1 ⊢
  have hS12 : Same w1 w2 := Same.trans hS0 hs2'
  obtain ⟨p1, hpp1⟩ : ∃ p1, w1.heap.size = p1 := ⟨_, rfl⟩
  have HA2 : Hid (OS 27 stc 6 w2 tb (L2.length + 1) tcb (madeT y m2 q2 1 L2) ∧ OU w2 sb j2 scb B ∧ Same w1 w2 ∧ w2.heap[p1]? = some (.cells #[.bool x, .int .u64 (q1 : Int), .slice sa j1 sc] 29 (0, 0)) ∧ (∀ i, At tb i → w1.heap.size ≤ i ∧ ¬ At sb i) ∧ ∀ i, At sb i → w1.heap.size ≤ i) := Lib.hid ⟨hT, hS, hS12, by rw [← hpp1]; exact hs2'.obj hp1 id, fun i hi => ⟨by have := ((hf2 i).1 hi).1; simp at this; omega, ((hf2 i).1 hi).2⟩, fun i hi => by have := (hf2 i).2 hi; simp at this; omega⟩
  rw [hpp1]
  have HW3 : Hid ((w2.alloc (.cells #[.bool y, .int .u64 (q2 : Int), .slice sb j2 scb] 29)).heap[p1]? = some (.cells #[.bool x, .int .u64 (q1 : Int), .slice sa j1 sc] 29 (0, 0))) := Lib.hid (((Only.refl (fun _ => False) w2).alloc _).obj HA2.out.2.2.2.1 id)
  have c0 : (w2.alloc (.cells #[.bool y, .int .u64 (q2 : Int), .slice sb j2 scb] 29)).cell? ⟨p1, 0, none⟩ = some (.bool x) := block_cell HW3.out rfl
  have c1 : (w2.alloc (.cells #[.bool y, .int .u64 (q2 : Int), .slice sb j2 scb] 29)).cell? ⟨p1, 1, none⟩ = some (.int .u64 (q1 : Int)) := block_cell HW3.out rfl
  have c2 : (w2.alloc (.cells #[.bool y, .int .u64 (q2 : Int), .slice sb j2 scb] 29)).cell? ⟨p1, 2, none⟩ = some (.slice sa j1 sc) := block_cell HW3.out rfl
  have HFT : Hid (∀ wx, Same w2 wx → Calls Try.prog ft #[.agg #[.bool x, .int .u64 (q1 : Int), .slice sa j1 sc], .agg #[.bool y, .int .u64 (q2 : Int), .slice sb j2 scb]] wx (FV wx (.bool f))) := Lib.hid (fun wx hW => by
    have := HFF.out sa sc sb scb wx (by rw [HJ1.out]; exact (HA1.out.2.1.still HA2.out.2.2.1).still hW) (by rw [HJ2.out]; exact HA2.out.2.1.still hW)
    rw [HJ1.out, HJ2.out] at this
    exact this)
  have hp1n : p1 ≠ w2.heap.size := by have := lt_of_heap HA2.out.2.2.2.1; omega
  clear hp1 hS0 hT hS hs2' hf2 hS12 HM2 g1 hB
  go_wp2_with (refine (HFT.out _ ?_).mono ?_)
  · exact (Only.refl _ _).alloc _
  rintro e w3 ⟨rfl, hS3⟩
  have hSW : Same w2 w3 := Same.trans ((Only.refl _ _).alloc _) hS3
  obtain ⟨p2, hpp2⟩ : ∃ p2, w2.heap.size = p2 := ⟨_, rfl⟩
  have HW : Hid (Same w w3 ∧ w3.heap[p1]? = some (.cells #[.bool x, .int .u64 (q1 : Int), .slice sa j1 sc] 29 (0, 0)) ∧ w3.heap[p2]? = some (.cells #[.bool y, .int .u64 (q2 : Int), .slice sb j2 scb] 29 (0, 0)) ∧
      OS 27 stc 6 w3 ta (L1.length + 1) tc (madeT x m1 q1 0 L1) ∧ OS 27 stc 6 w3 tb (L2.length + 1) tcb (madeT y m2 q2 1 L2) ∧ OU w3 sa j1 sc A ∧ OU w3 sb j2 scb B ∧ (∀ i, At ta i → w.heap.size ≤ i ∧ ¬ At sa i ∧ ¬ At sb i ∧ i ≠ p1 ∧ i ≠ p2) ∧ w2.heap.size ≤ w3.heap.size) := Lib.hid
    ⟨Same.trans HA1.out.2.2.1 (Same.trans HA2.out.2.2.1 hSW), hS3.obj HW3.out id, by rw [← hpp2]; exact hS3.obj (heap_alloc_new _ _) id, (HA1.out.1.still HA2.out.2.2.1).still hSW, HA2.out.1.still hSW, (HA1.out.2.1.still HA2.out.2.2.1).still hSW, HA2.out.2.1.still hSW,
      fun i hi => ⟨(HA1.out.2.2.2 i hi).1, (HA1.out.2.2.2 i hi).2, fun h => by have := HA2.out.2.2.2.2.2 i h; have := HA1.out.1.1.lt i hi; omega, by have := HA1.out.1.1.lt i hi; omega, by have := HA1.out.1.1.lt i hi; have := HA2.out.2.2.1.size; omega⟩, hSW.size⟩
  rw [hpp2]
  clear hS3 hSW HW3 HA1 HA2 c0 c1 c2 HFT hp1n G1 g0 HFF eg2
  cases f with
  | true =>
    obtain ⟨Y, hY, hruns⟩ := HRR.out rfl
    obtain ⟨n1, hn1⟩ : ∃ n1, L1.length + 1 = n1 := ⟨_, rfl⟩
    obtain ⟨n2, hn2⟩ : ∃ n2, L2.length + 1 = n2 := ⟨_, rfl⟩
    rw [hn1, hn2] at HW hY
    rw [hn1, hn2]
    have hn12 : n1 ≤ 41 ∧ n2 ≤ 41 ∧ 1 ≤ n1 ∧ 1 ≤ n2 := by omega
    obtain ⟨K, HKK0⟩ : ∃ K, Hid (n1 + n2 = K) := ⟨_, Lib.hid rfl⟩
    obtain ⟨N, HN⟩ : ∃ N, Hid (n1 + n2 + 2 = N) := ⟨_, Lib.hid rfl⟩
    have hN2 : N ≤ 100 := by have := HN.out; omega
    have hN3 : ((N : Int) == 0) = false := by have := HN.out; rw [beq_eq_false_iff_ne]; omega
    have hN4 : 1 ≤ N := by have := HN.out; omega
    have hK1 : K ≤ 100 := by have := HKK0.out; omega
    have HRU := Lib.hid hruns
    have HY := Lib.hid hY
    clear hruns hY HRR
    go_wp2_with (at_builtin; refine wpList_append (n1 + n2) ((madeT x m1 q1 0 L1).flatMap stc ++ (madeT y m2 q2 1 L2).flatMap stc) rfl _ _ _ _ rfl slStp rfl HW.out.2.2.2.1.1 rfl (HW.out.2.2.2.2.1.1.rd.src Try.underlying41) rfl rfl (by unfold maxLen; omega) (by omega) ?_)
    intro tx txc w4 hG4
    go_wp2_with (at_builtin; refine wpList_append N ((madeT x m1 q1 0 L1).flatMap stc ++ (madeT y m2 q2 1 L2).flatMap stc ++ (ask1T op).flatMap stc) rfl _ _ _ _ rfl slStp rfl (hG4.own.keep (S := fun _ => False) (by repeat (first | exact Only.refl _ _ | apply Only.alloc | apply Only.drew)) (fun _ _ => id)) rfl (Src.row (size := 6) (cs := ((ask1T op).flatMap stc).toArray) (t := 27) (fr := (0, 0)) Try.underlying41 (by exact heap_alloc_new _ _) 2 2 rfl (by intro u hu; exact flat_one stc_one _ u (by simpa using hu))) HN.out (by simp) (by unfold maxLen; omega) (by omega) ?_)
    intro ty tyc w5 hG5
    have hO4 : Only (At ta) w3 w4 := hG4.only
    have hO5 : Only (At ta) w3 w5 := hO4.trans (((Only.refl (At tx) w4).alloc _).trans hG5.only (fun _ _ h => h)) (fun k hk h => (hG4.fresh k h).elim id (fun h2 => absurd hk (by omega)))
    have hta := HW.out.2.2.2.2.2.2.2.1
    have HW5 : Hid (Same w w5 ∧ w5.heap[p1]? = some (.cells #[.bool x, .int .u64 (q1 : Int), .slice sa j1 sc] 29 (0, 0)) ∧ w5.heap[p2]? = some (.cells #[.bool y, .int .u64 (q2 : Int), .slice sb j2 scb] 29 (0, 0)) ∧
        RS stc 6 w5 ty N tyc (madeT x m1 q1 0 L1 ++ madeT y m2 q2 1 L2 ++ ask1T op) ∧ OU w5 sa j1 sc A ∧ OU w5 sb j2 scb B) := Lib.hid
      ⟨new_only HW.out.1 hO5 (fun i hi => (hta i hi).1), hO5.obj HW.out.2.1 (fun h => (hta _ h).2.2.2.1 rfl), hO5.obj HW.out.2.2.1 (fun h => (hta _ h).2.2.2.2 rfl),
        ⟨by rw [List.flatMap_append, List.flatMap_append, List.append_assoc]; exact hG5.own.rd, by rw [List.length_append, List.length_append, HW.out.2.2.2.1.2, HW.out.2.2.2.2.1.2]; exact HN.out⟩,
        ⟨HW.out.2.2.2.2.2.1.1.keep hO5 (fun i hi h => (hta i h).2.1 hi), HW.out.2.2.2.2.2.1.2⟩, ⟨HW.out.2.2.2.2.2.2.1.1.keep hO5 (fun i hi h => (hta i h).2.2.1 hi), HW.out.2.2.2.2.2.2.1.2⟩⟩
    have HANS := Lib.hid (baAnswers ty N tyc _ _ w5 HW5.out.2.2.2.1 (by omega) HRU.out)
    have HYL : Hid ((Y ++ ask1Y A b).length = N ∧ Y.length = n1 + n2) := Lib.hid (by rw [List.length_append, HY.out]; exact ⟨by simp only [ask1Y, List.length_cons, List.length_nil]; have := HN.out; omega, by omega⟩)
    clear hG4 hG5 hO4 hO5 hta HRU HY
    go_wp2_with (go_at_call 14; refine HANS.out.mono ?_)
    rintro e w6 ⟨oa, oc, As, rfl, hRS, hAs, hIts, hoa, hS6⟩
    have HR6 := Lib.hid (And.intro hRS (And.intro hAs (And.intro hIts hS6)))
    rw [HYL.out.1] at HR6 ⊢
    have e1 : w6.cell? ⟨p1, 2, none⟩ = some (.slice sa j1 sc) := block_cell (hS6.obj HW5.out.2.1 id) rfl
    have e2 : w6.cell? ⟨p2, 2, none⟩ = some (.slice sb j2 scb) := block_cell (hS6.obj HW5.out.2.2.1 id) rfl
    have HOU6 : Hid (OU w6 sa j1 sc A ∧ OU w6 sb j2 scb B) := Lib.hid ⟨HW5.out.2.2.2.2.1.still hS6, HW5.out.2.2.2.2.2.still hS6⟩
    have HNA : Hid (Calls Try.prog mk #[.slice sa j1 sc, .slice sb j2 scb] w6 (FV w6 (.bool b))) := Lib.hid (by
      have := HKK.out sa sc sb scb w6 (by rw [HJ1.out]; exact HOU6.out.1) (by rw [HJ2.out]; exact HOU6.out.2)
      rw [HJ1.out, HJ2.out] at this
      exact this)
    have HS06 : Hid (Same w w6) := Lib.hid (Same.trans HW5.out.1 hS6)
    have hkk1 : IntKind.i64.wrap ((N : Int) - 2) = ((K + 0 : Nat) : Int) := by have := HN.out; have := HKK0.out; rw [IntWalk.i64_in _ (by omega)]; omega
    clear hRS hAs hIts hoa hS6 HANS HKK
    go_wp2_with (refine HNA.out.mono ?_)
    rintro e w7 ⟨rfl, hS7⟩
    have g1 : w7.cell? ⟨p1, 2, none⟩ = some (.slice sa j1 sc) := (hS7.cell (p := ⟨p1, 2, none⟩) (lt_cell e1) id).trans e1
    have g2 : w7.cell? ⟨p2, 2, none⟩ = some (.slice sb j2 scb) := (hS7.cell (p := ⟨p2, 2, none⟩) (lt_cell e2) id).trans e2
    obtain ⟨ob, oo, hoa, hob, hcl⟩ := (HR6.out.1.still hS7).at anc_len (by have := HN.out; omega)
    obtain ⟨x0, hx0, hy0⟩ := as_at HR6.out.2.1 HYL.out.2 (t := 0) rfl
    obtain ⟨x1, hx1, hy1⟩ := as_at HR6.out.2.1 HYL.out.2 (t := 1) rfl
    have k0 := hcl _ x0 hx0 1 _ rfl
    have k1 := hcl _ x1 hx1 0 _ rfl
    rw [hy0] at k0
    rw [hy1] at k1
    have k0' : w7.cell? ⟨ob, oo + K * 4 + 1, none⟩ = some (.int .u64 (j1 : Int)) := by
      have e1 : A.length = j1 := HJ1.out
      have e2 := HKK0.out
      rw [← e1, ← e2]; exact k0
    have k1' : w7.cell? ⟨ob, oo + (K + 1) * 4, none⟩ = some (.bool b) := by
      have e2 := HKK0.out
      rw [← e2]; exact k1
    have HSF : Hid (Same w w7) := Lib.hid (Same.trans HS06.out hS7)
    clear hS7 e1 e2 HNA k0 k1 hx0 hx1 hy0 hy1 hcl HR6 HOU6 HW5 HW HS06
    have b0 : (0 : Int) ≤ (K : Int) := by omega
    have b1 : IntKind.i64.wrap ((K : Int) + 1) = ((K + 1 : Nat) : Int) := by rw [IntWalk.i64_in _ (by omega)]; omega
    have b2 : IntKind.i64.wrap ((K : Int) + 2) = ((K + 2 : Nat) : Int) := by rw [IntWalk.i64_in _ (by omega)]; omega
    have b6 : IntKind.u64.wrap (j1 : Int) = (j1 : Int) := by rw [IntKind.wrap_u64]; omega
    have l0 : (K : Int) < (N : Int) := by have := HN.out; have := HKK0.out; omega
    have l1 : ((K + 1 : Nat) : Int) < (N : Int) := by have := HN.out; have := HKK0.out; omega
    generalize K + 1 = i1 at *
    generalize K + 2 = i2 at *
    clear hl1 hl2 hn1 hn2 hn12 hA1 hB1 HYL
    subst hoa
    go_wp2_with fail
    go_quiet (fail)
    go_wp2_with fail
    go_ret
    exact ⟨rfl, HSF.out.drewN _⟩
  | false =>
    go_wp2_with fail
    go_ret
    exact ⟨rfl, HW.out.1⟩
set_option maxRecDepth 100000 in
set_option maxHeartbeats 3200000 in
theorem baAskG2 (op : Nat) (x y : Bool) (s1 s2 : Nat) (a ba : Option Addr) (n ca m cb : Nat) (l1 l2 L1 L2 : List Nat) (mk ft m1 q1 m2 q2 : Nat) (b : Bool) (f : Bool) (w : World) (eg1 : ∀ args w, (callFunc mk args).run Try.prog w = .ok (.enter mk args) w) (eg2 : ∀ args w, (callFunc ft args).run Try.prog w = .ok (.enter ft args) w) (h1 : RL uv w a n ca l1) (h2 : RL uv w ba m cb l2)
    (e1 : l1.take 40 = L1) (e2 : l2.take 40 = L2) (M1 : MadeC x s1 0 a n ca l1 m1 q1) (M2 : MadeC y s2 1 ba m cb l2 m2 q2) (HF : FitsC ft x y q1 q2 (madeS x q1 L1) (madeS y q2 L2) f) (HK : IsC mk (madeS x q1 L1) (madeS y q2 L2) b)
    (R : f = true → ∃ Y, Y.length = L1.length + 1 + (L2.length + 1) ∧ Runs [] (madeT x m1 q1 0 L1 ++ madeT y m2 q2 1 L2 ++ ask2T op) (Y ++ ask2Y (madeS x q1 L1) b)) :
    Calls Try.prog 11 #[.int .i64 (op : Int), .bool x, .bool y, .bool true, .agg #[.int .u16 (s1 : Int), .int .u16 (s2 : Int)], .slice a n ca, .slice ba m cb, .func (Fn.func mk) #[] #[], .func (Fn.func ft) #[] #[]] w (FV w (.bool true)) := by
  have hl1 : L1.length ≤ 40 := by rw [← e1, List.length_take]; omega
  have hl2 : L2.length ≤ 40 := by rw [← e2, List.length_take]; omega
  have HM1 : Hid (∀ wx, Same w wx → Calls Try.prog 19 #[.bool x, .int .u16 (s1 : Int), .slice a n ca, .int .i64 0] wx (MadeQ x m1 q1 0 L1 wx)) := Lib.hid (fun wx hS => by have := M1 wx (h1.still hS); rw [e1] at this; exact this)
  have HM2 : Hid (∀ wx, Same w wx → Calls Try.prog 19 #[.bool y, .int .u16 (s2 : Int), .slice ba m cb, .int .i64 1] wx (MadeQ y m2 q2 1 L2 wx)) := Lib.hid (fun wx hS => by have := M2 wx (h2.still hS); rw [e2] at this; exact this)
  have HFF := Lib.hid HF
  have HKK := Lib.hid HK
  have HRR := Lib.hid R
  clear h1 h2 e1 e2 M1 M2 HF HK R
  go_enter Try.func11, Try.ntmps11
  go_wp2_with (go_at_call 19; refine (HM1.out _ ?_).mono ?_)
  · exact (Only.refl _ _).alloc _
  have hbx : (w.alloc (.cells #[.int .u16 (s1 : Int), .int .u16 (s2 : Int)] 37)).heap[w.heap.size]? = _ := heap_alloc_new w _
  have hS0 : Same w (w.alloc (.cells #[.int .u16 (s1 : Int), .int .u16 (s2 : Int)] 37)) := (Only.refl _ _).alloc _
  rintro e w1 ⟨ta, tc, sa, sc, rfl, hT, hS, hs1', hf1⟩
  have hne1 : w.heap.size ≠ w1.heap.size := by have := hs1'.size; simp at this; omega
  have G1 : Hid (∀ O, (w1.alloc O).cell? ⟨w.heap.size, 1, none⟩ = some (.int .u16 (s2 : Int))) := Lib.hid (fun O => block_cell (((Only.refl (fun _ => False) w1).alloc O).obj (hs1'.obj hbx id) id) rfl)
  have HA1 : Hid (OS 27 stc 6 w1 ta (L1.length + 1) tc (madeT x m1 q1 0 L1) ∧ OU w1 sa (madeS x q1 L1).length sc (madeS x q1 L1) ∧ Same w w1 ∧ ∀ i, At ta i → w.heap.size ≤ i ∧ ¬ At sa i) := Lib.hid ⟨hT, hS, Same.trans hS0 hs1', fun i hi => ⟨by have := ((hf1 i).1 hi).1; simp at this; omega, ((hf1 i).1 hi).2⟩⟩
  obtain ⟨A, hA⟩ : ∃ A, madeS x q1 L1 = A := ⟨_, rfl⟩
  have hA1 : A.length ≤ 40 := by have := madeS_len x q1 L1; rw [hA] at this; omega
  rw [hA] at HA1 HFF HKK HRR ⊢
  obtain ⟨j1, HJ1⟩ : ∃ j1, Hid (A.length = j1) := ⟨_, Lib.hid rfl⟩
  rw [HJ1.out] at HA1 hA1 ⊢
  have g1 := G1.out (.cells #[.bool x, .int .u64 (q1 : Int), .slice sa j1 sc] 29)
  have g0 : w1.cell? ⟨w.heap.size, 1, none⟩ = some (.int .u16 (s2 : Int)) := block_cell (hs1'.obj hbx id) rfl
  clear hbx hS0 hT hS hs1' hf1 HM1 hA
  go_wp2_with (go_at_call 19; refine (HM2.out _ ?_).mono ?_)
  · exact HA1.out.2.2.1.alloc _
  have hp1 : (w1.alloc (.cells #[.bool x, .int .u64 (q1 : Int), .slice sa j1 sc] 29)).heap[w1.heap.size]? = _ := heap_alloc_new w1 _
  have hS0 : Same w1 (w1.alloc (.cells #[.bool x, .int .u64 (q1 : Int), .slice sa j1 sc] 29)) := (Only.refl _ _).alloc _
  rintro e w2 ⟨tb, tcb, sb, scb, rfl, hT, hS, hs2', hf2⟩
  obtain ⟨B, hB⟩ : ∃ B, madeS y q2 L2 = B := ⟨_, rfl⟩
  have hB1 : B.length ≤ 40 := by have := madeS_len y q2 L2; rw [hB] at this; omega
  rw [hB] at HFF HKK hS ⊢
  obtain ⟨j2, HJ2⟩ : ∃ j2, Hid (B.length = j2) := ⟨_, Lib.hid rfl⟩
  rw [HJ2.out] at hS hB1 ⊢
  have hS12 : Same w1 w2 := Same.trans hS0 hs2'
  obtain ⟨p1, hpp1⟩ : ∃ p1, w1.heap.size = p1 := ⟨_, rfl⟩
  have HA2 : Hid (OS 27 stc 6 w2 tb (L2.length + 1) tcb (madeT y m2 q2 1 L2) ∧ OU w2 sb j2 scb B ∧ Same w1 w2 ∧ w2.heap[p1]? = some (.cells #[.bool x, .int .u64 (q1 : Int), .slice sa j1 sc] 29 (0, 0)) ∧ (∀ i, At tb i → w1.heap.size ≤ i ∧ ¬ At sb i) ∧ ∀ i, At sb i → w1.heap.size ≤ i) := Lib.hid ⟨hT, hS, hS12, by rw [← hpp1]; exact hs2'.obj hp1 id, fun i hi => ⟨by have := ((hf2 i).1 hi).1; simp at this; omega, ((hf2 i).1 hi).2⟩, fun i hi => by have := (hf2 i).2 hi; simp at this; omega⟩
  rw [hpp1]
  have HW3 : Hid ((w2.alloc (.cells #[.bool y, .int .u64 (q2 : Int), .slice sb j2 scb] 29)).heap[p1]? = some (.cells #[.bool x, .int .u64 (q1 : Int), .slice sa j1 sc] 29 (0, 0))) := Lib.hid (((Only.refl (fun _ => False) w2).alloc _).obj HA2.out.2.2.2.1 id)
  have c0 : (w2.alloc (.cells #[.bool y, .int .u64 (q2 : Int), .slice sb j2 scb] 29)).cell? ⟨p1, 0, none⟩ = some (.bool x) := block_cell HW3.out rfl
  have c1 : (w2.alloc (.cells #[.bool y, .int .u64 (q2 : Int), .slice sb j2 scb] 29)).cell? ⟨p1, 1, none⟩ = some (.int .u64 (q1 : Int)) := block_cell HW3.out rfl
  have c2 : (w2.alloc (.cells #[.bool y, .int .u64 (q2 : Int), .slice sb j2 scb] 29)).cell? ⟨p1, 2, none⟩ = some (.slice sa j1 sc) := block_cell HW3.out rfl
  have HFT : Hid (∀ wx, Same w2 wx → Calls Try.prog ft #[.agg #[.bool x, .int .u64 (q1 : Int), .slice sa j1 sc], .agg #[.bool y, .int .u64 (q2 : Int), .slice sb j2 scb]] wx (FV wx (.bool f))) := Lib.hid (fun wx hW => by
    have := HFF.out sa sc sb scb wx (by rw [HJ1.out]; exact (HA1.out.2.1.still HA2.out.2.2.1).still hW) (by rw [HJ2.out]; exact HA2.out.2.1.still hW)
    rw [HJ1.out, HJ2.out] at this
    exact this)
  have hp1n : p1 ≠ w2.heap.size := by have := lt_of_heap HA2.out.2.2.2.1; omega
  clear hp1 hS0 hT hS hs2' hf2 hS12 HM2 g1 hB
  go_wp2_with (refine (HFT.out _ ?_).mono ?_)
  · exact (Only.refl _ _).alloc _
  rintro e w3 ⟨rfl, hS3⟩
  have hSW : Same w2 w3 := Same.trans ((Only.refl _ _).alloc _) hS3
  obtain ⟨p2, hpp2⟩ : ∃ p2, w2.heap.size = p2 := ⟨_, rfl⟩
  have HW : Hid (Same w w3 ∧ w3.heap[p1]? = some (.cells #[.bool x, .int .u64 (q1 : Int), .slice sa j1 sc] 29 (0, 0)) ∧ w3.heap[p2]? = some (.cells #[.bool y, .int .u64 (q2 : Int), .slice sb j2 scb] 29 (0, 0)) ∧
      OS 27 stc 6 w3 ta (L1.length + 1) tc (madeT x m1 q1 0 L1) ∧ OS 27 stc 6 w3 tb (L2.length + 1) tcb (madeT y m2 q2 1 L2) ∧ OU w3 sa j1 sc A ∧ OU w3 sb j2 scb B ∧ (∀ i, At ta i → w.heap.size ≤ i ∧ ¬ At sa i ∧ ¬ At sb i ∧ i ≠ p1 ∧ i ≠ p2) ∧ w2.heap.size ≤ w3.heap.size) := Lib.hid
    ⟨Same.trans HA1.out.2.2.1 (Same.trans HA2.out.2.2.1 hSW), hS3.obj HW3.out id, by rw [← hpp2]; exact hS3.obj (heap_alloc_new _ _) id, (HA1.out.1.still HA2.out.2.2.1).still hSW, HA2.out.1.still hSW, (HA1.out.2.1.still HA2.out.2.2.1).still hSW, HA2.out.2.1.still hSW,
      fun i hi => ⟨(HA1.out.2.2.2 i hi).1, (HA1.out.2.2.2 i hi).2, fun h => by have := HA2.out.2.2.2.2.2 i h; have := HA1.out.1.1.lt i hi; omega, by have := HA1.out.1.1.lt i hi; omega, by have := HA1.out.1.1.lt i hi; have := HA2.out.2.2.1.size; omega⟩, hSW.size⟩
  rw [hpp2]
  clear hS3 hSW HW3 HA1 HA2 c0 c1 c2 HFT hp1n G1 g0 HFF eg2
  cases f with
  | true =>
    obtain ⟨Y, hY, hruns⟩ := HRR.out rfl
    obtain ⟨n1, hn1⟩ : ∃ n1, L1.length + 1 = n1 := ⟨_, rfl⟩
    obtain ⟨n2, hn2⟩ : ∃ n2, L2.length + 1 = n2 := ⟨_, rfl⟩
    rw [hn1, hn2] at HW hY
    rw [hn1, hn2]
    have hn12 : n1 ≤ 41 ∧ n2 ≤ 41 ∧ 1 ≤ n1 ∧ 1 ≤ n2 := by omega
    obtain ⟨K, HKK0⟩ : ∃ K, Hid (n1 + n2 = K) := ⟨_, Lib.hid rfl⟩
    obtain ⟨N, HN⟩ : ∃ N, Hid (n1 + n2 + 3 = N) := ⟨_, Lib.hid rfl⟩
    have hN2 : N ≤ 100 := by have := HN.out; omega
    have hN3 : ((N : Int) == 0) = false := by have := HN.out; rw [beq_eq_false_iff_ne]; omega
    have hN4 : 1 ≤ N := by have := HN.out; omega
    have hK1 : K ≤ 100 := by have := HKK0.out; omega
    have HRU := Lib.hid hruns
    have HY := Lib.hid hY
    clear hruns hY HRR
    go_wp2_with (at_builtin; refine wpList_append (n1 + n2) ((madeT x m1 q1 0 L1).flatMap stc ++ (madeT y m2 q2 1 L2).flatMap stc) rfl _ _ _ _ rfl slStp rfl HW.out.2.2.2.1.1 rfl (HW.out.2.2.2.2.1.1.rd.src Try.underlying41) rfl rfl (by unfold maxLen; omega) (by omega) ?_)
    intro tx txc w4 hG4
    go_wp2_with (at_builtin; refine wpList_append (n1 + n2 + 2) ((madeT x m1 q1 0 L1).flatMap stc ++ (madeT y m2 q2 1 L2).flatMap stc ++ (ask1T op).flatMap stc) rfl _ _ _ _ rfl slStp rfl (hG4.own.keep (S := fun _ => False) (by repeat (first | exact Only.refl _ _ | apply Only.alloc | apply Only.drew)) (fun _ _ => id)) rfl (Src.row (size := 6) (cs := ((ask1T op).flatMap stc).toArray) (t := 27) (fr := (0, 0)) Try.underlying41 (by exact heap_alloc_new _ _) 2 2 rfl (by intro u hu; exact flat_one stc_one _ u (by simpa using hu))) rfl (by simp) (by unfold maxLen; omega) (by omega) ?_)
    intro tz tzc w45 hG45
    go_wp2_with (at_builtin; refine wpList_append N ((madeT x m1 q1 0 L1).flatMap stc ++ (madeT y m2 q2 1 L2).flatMap stc ++ (ask1T op).flatMap stc ++ stc { op := op, on := 1, by_ := 0 }) rfl _ _ _ _ rfl slStp rfl (hG45.own.keep (S := fun _ => False) (by repeat (first | exact Only.refl _ _ | apply Only.alloc | apply Only.drew)) (fun _ _ => id)) rfl (Src.row (size := 6) (cs := (stc { op := op, on := 1, by_ := 0 }).toArray) (t := 27) (fr := (0, 0)) Try.underlying41 (by exact heap_alloc_new _ _) 1 1 rfl (by intro u hu; exact stc_one _ u (by simpa using hu))) HN.out (by simp) (by unfold maxLen; omega) (by omega) ?_)
    intro ty tyc w5 hG5
    have hO4 : Only (At ta) w3 w4 := hG4.only
    have hO5 : Only (At ta) w3 w5 := (hO4.trans (((Only.refl (At tx) w4).alloc _).trans hG45.only (fun _ _ h => h)) (fun k hk h => (hG4.fresh k h).elim id (fun h2 => absurd hk (by omega)))).trans (((Only.refl (At tz) w45).alloc _).trans hG5.only (fun _ _ h => h)) (fun k hk h => (hG45.fresh k h).elim (fun h2 => (hG4.fresh k h2).elim id (fun h3 => absurd hk (by omega))) (fun h2 => absurd hk (by have := hO4.size; have := hG4.only.size; simp at h2; omega)))
    have hta := HW.out.2.2.2.2.2.2.2.1
    have HW5 : Hid (Same w w5 ∧ w5.heap[p1]? = some (.cells #[.bool x, .int .u64 (q1 : Int), .slice sa j1 sc] 29 (0, 0)) ∧ w5.heap[p2]? = some (.cells #[.bool y, .int .u64 (q2 : Int), .slice sb j2 scb] 29 (0, 0)) ∧
        RS stc 6 w5 ty N tyc (madeT x m1 q1 0 L1 ++ madeT y m2 q2 1 L2 ++ ask2T op) ∧ OU w5 sa j1 sc A ∧ OU w5 sb j2 scb B) := Lib.hid
      ⟨new_only HW.out.1 hO5 (fun i hi => (hta i hi).1), hO5.obj HW.out.2.1 (fun h => (hta _ h).2.2.2.1 rfl), hO5.obj HW.out.2.2.1 (fun h => (hta _ h).2.2.2.2 rfl),
        ⟨by rw [List.flatMap_append, List.flatMap_append, List.append_assoc]; exact (show _ from by have h9 := hG5.own.rd; simpa [ask1T, ask2T, List.append_assoc] using h9), by rw [List.length_append, List.length_append, HW.out.2.2.2.1.2, HW.out.2.2.2.2.1.2]; exact HN.out⟩,
        ⟨HW.out.2.2.2.2.2.1.1.keep hO5 (fun i hi h => (hta i h).2.1 hi), HW.out.2.2.2.2.2.1.2⟩, ⟨HW.out.2.2.2.2.2.2.1.1.keep hO5 (fun i hi h => (hta i h).2.2.1 hi), HW.out.2.2.2.2.2.2.1.2⟩⟩
    have HANS := Lib.hid (baAnswers ty N tyc _ _ w5 HW5.out.2.2.2.1 (by omega) HRU.out)
    have HYL : Hid ((Y ++ ask2Y A b).length = N ∧ Y.length = n1 + n2) := Lib.hid (by rw [List.length_append, HY.out]; exact ⟨by simp only [ask2Y, List.length_cons, List.length_nil]; have := HN.out; omega, by omega⟩)
    clear hG4 hG45 hG5 hO4 hO5 hta HRU HY
    go_wp2_with (go_at_call 14; refine HANS.out.mono ?_)
    rintro e w6 ⟨oa, oc, As, rfl, hRS, hAs, hIts, hoa, hS6⟩
    have HR6 := Lib.hid (And.intro hRS (And.intro hAs (And.intro hIts hS6)))
    rw [HYL.out.1] at HR6 ⊢
    have e1 : w6.cell? ⟨p1, 2, none⟩ = some (.slice sa j1 sc) := block_cell (hS6.obj HW5.out.2.1 id) rfl
    have e2 : w6.cell? ⟨p2, 2, none⟩ = some (.slice sb j2 scb) := block_cell (hS6.obj HW5.out.2.2.1 id) rfl
    have HOU6 : Hid (OU w6 sa j1 sc A ∧ OU w6 sb j2 scb B) := Lib.hid ⟨HW5.out.2.2.2.2.1.still hS6, HW5.out.2.2.2.2.2.still hS6⟩
    have HNA : Hid (Calls Try.prog mk #[.slice sa j1 sc, .slice sb j2 scb] w6 (FV w6 (.bool b))) := Lib.hid (by
      have := HKK.out sa sc sb scb w6 (by rw [HJ1.out]; exact HOU6.out.1) (by rw [HJ2.out]; exact HOU6.out.2)
      rw [HJ1.out, HJ2.out] at this
      exact this)
    have HS06 : Hid (Same w w6) := Lib.hid (Same.trans HW5.out.1 hS6)
    have hkk1 : IntKind.i64.wrap ((N : Int) - 2) = ((K + 1 : Nat) : Int) := by have := HN.out; have := HKK0.out; rw [IntWalk.i64_in _ (by omega)]; omega
    have hkk2 : ((K + 1 : Nat) : Int) - 1 = (K : Int) := by omega
    clear hRS hAs hIts hoa hS6 HANS HKK
    go_wp2_with (refine HNA.out.mono ?_)
    rintro e w7 ⟨rfl, hS7⟩
    have g1 : w7.cell? ⟨p1, 2, none⟩ = some (.slice sa j1 sc) := (hS7.cell (p := ⟨p1, 2, none⟩) (lt_cell e1) id).trans e1
    have g2 : w7.cell? ⟨p2, 2, none⟩ = some (.slice sb j2 scb) := (hS7.cell (p := ⟨p2, 2, none⟩) (lt_cell e2) id).trans e2
    obtain ⟨ob, oo, hoa, hob, hcl⟩ := (HR6.out.1.still hS7).at anc_len (by have := HN.out; omega)
    obtain ⟨x0, hx0, hy0⟩ := as_at HR6.out.2.1 HYL.out.2 (t := 0) rfl
    obtain ⟨x1, hx1, hy1⟩ := as_at HR6.out.2.1 HYL.out.2 (t := 1) rfl
    obtain ⟨x2, hx2, hy2⟩ := as_at HR6.out.2.1 HYL.out.2 (t := 2) rfl
    have k0 := hcl _ x0 hx0 1 _ rfl
    have k1 := hcl _ x1 hx1 0 _ rfl
    have k2 := hcl _ x2 hx2 0 _ rfl
    rw [hy0] at k0
    rw [hy1] at k1
    rw [hy2] at k2
    have k0' : w7.cell? ⟨ob, oo + K * 4 + 1, none⟩ = some (.int .u64 (j1 : Int)) := by
      have e1 : A.length = j1 := HJ1.out
      have e2 := HKK0.out
      rw [← e1, ← e2]; exact k0
    have k1' : w7.cell? ⟨ob, oo + (K + 1) * 4, none⟩ = some (.bool b) := by
      have e2 := HKK0.out
      rw [← e2]; exact k1
    have k2' : w7.cell? ⟨ob, oo + (K + 2) * 4, none⟩ = some (.bool b) := by
      have e2 := HKK0.out
      rw [← e2]; exact k2
    have HSF : Hid (Same w w7) := Lib.hid (Same.trans HS06.out hS7)
    clear hS7 e1 e2 HNA k0 k1 hx0 hx1 hy0 hy1 hcl HR6 HOU6 HW5 HW HS06 k2 hx2 hy2
    have b0 : (0 : Int) ≤ (K : Int) := by omega
    have b1 : IntKind.i64.wrap ((K : Int) + 1) = ((K + 1 : Nat) : Int) := by rw [IntWalk.i64_in _ (by omega)]; omega
    have b2 : IntKind.i64.wrap ((K : Int) + 2) = ((K + 2 : Nat) : Int) := by rw [IntWalk.i64_in _ (by omega)]; omega
    have b6 : IntKind.u64.wrap (j1 : Int) = (j1 : Int) := by rw [IntKind.wrap_u64]; omega
    have l0 : (K : Int) < (N : Int) := by have := HN.out; have := HKK0.out; omega
    have l1 : ((K + 1 : Nat) : Int) < (N : Int) := by have := HN.out; have := HKK0.out; omega
    have l2 : ((K + 2 : Nat) : Int) < (N : Int) := by have := HN.out; have := HKK0.out; omega
    generalize K + 1 = i1 at *
    generalize K + 2 = i2 at *
    clear hl1 hl2 hn1 hn2 hn12 hA1 hB1 HYL
    subst hoa
    go_wp2_with fail
    go_quiet (fail)
    go_wp2_with fail
    go_ret
    exact ⟨rfl, HSF.out.drewN _⟩
  | false =>
    go_wp2_with fail
    go_ret
    exact ⟨rfl, HW.out.1⟩
end Go.Proofs.Ytacjkbljokjdkaa.ba

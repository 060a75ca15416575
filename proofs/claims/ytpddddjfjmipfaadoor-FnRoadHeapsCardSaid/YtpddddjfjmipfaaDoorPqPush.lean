/-
  push: an element is put at the end, and goes up.
-/
import Derived.Test.YtpddddjfjmipfaaDoorPqObj
import Derived.Deep.CutRange
import Derived.Deep.DeepCutAuto
namespace Go.Proofs.YtpddddjfjmipfaaDoor.pq
open Go.RowKit Go.Proofs.YtpddddjfjmipfaaDoor.base Go.Proofs.YtpddddjfjmipfaaDoor.heap Go.Proofs.YtpddddjfjmipfaaDoor.rows
set_option linter.unusedVariables false

theorem slP : SliceOf Tryd.prog 64 77 1 16 := SliceOf.mk (z := .nilIface) Tryd.underlying64 (by kernel_rfl) rfl
theorem slI : SliceOf Tryd.prog 63 77 1 16 := SliceOf.mk (z := .nilIface) Tryd.underlying63 (by kernel_rfl) rfl

/-- the queue behind the append -/
theorem Q.appended {w w1 w2 : World} {ob mb : Nat} {a a2 : Option Addr} {cap cap2 : Nat} {L : List It} {x : It} (h : Q w ob mb a cap L) (hs : Same w w1)
    (hG : Grew 77 1 w1 w2 a a2 1 (L.length + 1) cap cap2 (L.map itv ++ [itv x])) :
    Q (w2.setCell ⟨ob, 0, none⟩ (.slice a2 (L.length + 1) cap2)) ob mb a2 cap2 (L ++ [x]) ∧ Only (Fp ob mb a) w (w2.setCell ⟨ob, 0, none⟩ (.slice a2 (L.length + 1) cap2)) ∧
      w2.cell? ⟨ob, 0, none⟩ = some (.slice a L.length cap) ∧ w2.frozen? ⟨ob, 0, none⟩ = false ∧ (∀ k, At a2 k → At a k ∨ w.heap.size ≤ k) := by
  have hO : Only (At a) w w2 := Only.trans (S := At a) (hs.mono (fun _ _ h => h.elim)) hG.only (fun _ _ h => h)
  have hobj := hO.obj h.obj h.nob
  have hfr : ∀ k, At a2 k → At a k ∨ w.heap.size ≤ k := fun k hk => (hG.fresh k hk).imp id (fun h' => Nat.le_trans hs.size h')
  have hlt := h.lt
  have nob : ¬ At a2 ob := fun e => (hfr _ e).elim h.nob (fun h' => by have := hlt ob (.inl rfl); omega)
  have nmb : ¬ At a2 mb := fun e => (hfr _ e).elim h.nmb (fun h' => by have := hlt mb (.inr (.inl rfl)); omega)
  have hO2 : Only (fun k => k = ob) w2 (w2.setCell ⟨ob, 0, none⟩ (.slice a2 (L.length + 1) cap2)) := (Only.refl _ _).setCell _ _ (fun _ => rfl)
  refine ⟨⟨?_, ?_, (h.map.keep hO h.nmb).keep hO2 (fun e => h.ne e.symm), h.ne, nob, nmb⟩, ?_, block_cell hobj rfl, block_free hobj, hfr⟩
  · have := setCell_heap hobj 0 (.slice a2 (L.length + 1) cap2)
    simpa using this
  · refine ⟨?_, rfl⟩
    have := hG.own.keep hO2 (fun k hk e => nob (by rw [← e]; exact hk))
    rw [List.map_append, List.length_append]
    exact this
  · exact Only.trans (hO.mono (fun k _ hk => .inr (.inr hk))) hO2 (fun k _ e => .inl e)

theorem methodC (k t : Int) (w : World) : (method 253 69 (Value.agg #[Value.int IntKind.i64 k, Value.int IntKind.i64 t]) "Compare").run Tryd.prog w = .ok (79, Value.agg #[Value.int IntKind.i64 k, Value.int IntKind.i64 t]) w := by kernel_rfl
theorem nilC (k t : Int) (w : World) : (nilAhead 253 69 (Value.agg #[Value.int IntKind.i64 k, Value.int IntKind.i64 t]) "Compare").run Tryd.prog w = .ok (some false) w := by kernel_rfl
theorem ord_pos {a b : Int} (h : b < a) : ordZ a b = 1 := by unfold ordZ; rw [if_neg (by omega), if_pos h]
theorem ord_neg {a b : Int} (h : a < b) : ordZ a b = -1 := by unfold ordZ; rw [if_pos h]
theorem ord_le {a b : Int} (h : a ≤ b) : ordZ a b ≤ 0 := by unfold ordZ; split; omega; split; omega; omega
theorem ord_ge {a b : Int} (h : b ≤ a) : 0 ≤ ordZ a b := by unfold ordZ; split; omega; split; omega; omega
theorem half (n : Nat) : ((n : Int) - 1).tdiv 2 = (((n - 1) / 2 : Nat) : Int) := by
  cases n with
  | zero => rfl
  | succ n =>
    rw [Int.tdiv_eq_ediv_of_nonneg (by omega)]
    omega
/-- in the course of it: x stands at j -/
structure Up (w wr : World) (ob mb : Nat) (a a2 : Option Addr) (cap2 : Nat) (L : List It) (x : It) (j : Nat) (L' : List It) : Prop where
  q : Q wr ob mb a2 cap2 L'
  up : UpH L' j
  at_ : L'[j]? = some x
  perm : L'.Perm (L ++ [x])
  only : Only (Fp ob mb a) w wr

set_option maxRecDepth 100000 in
set_option maxHeartbeats 1600000 in
theorem pushQ {w : World} {ob mb : Nat} {a : Option Addr} {cap : Nat} {L : List It} (h : Q w ob mb a cap L) (hh : Heap L) (hl : L.length < 100000) (x : It) :
    Calls Tryd.prog 32 #[.pointer (some ⟨ob, 0, none⟩), itv x] w fun e w' => e = .returned (.tuple #[]) ∧ ∃ a' cap' L', Q w' ob mb a' cap' L' ∧ Heap L' ∧ L'.Perm (L ++ [x]) ∧ Only (Fp ob mb a) w w' ∧ ∀ k, At a' k → At a k ∨ w.heap.size ≤ k := by
  obtain ⟨kx, tx⟩ := x
  have hbd := h.own.bound
  have q0 : w.cell? ⟨ob, 0, none⟩ = some (.slice a L.length cap) := block_cell h.obj rfl
  have HQ := Lib.hid h
  have HH := Lib.hid hh
  have hob : ob < w.heap.size := lt_of_heap h.obj
  clear h hh
  show Calls Tryd.prog 32 #[.pointer (some ⟨ob, 0, none⟩), iw kx tx] w _
  go_enter Tryd.func32, Tryd.ntmps32
  go_wp2_with (at_builtin; refine wpList_append (L.length + 1) (L.map itv ++ [itv ⟨kx, tx⟩]) rfl _ _ _ _ rfl slP rfl (HQ.out.own.1.keep (S := fun _ => False) (by repeat (first | exact Only.refl _ _ | apply Only.alloc | apply Only.drew)) (fun _ _ => id)) rfl (Src.row (size := 1) (cs := #[iw kx tx]) (t := 77) (fr := (0, 0)) Tryd.underlying64 (by exact heap_alloc_new _ _) 1 1 rfl (by simp [Value.oneCell'])) rfl rfl (by unfold maxLen; omega) (by omega) ?_)
  intro a2 cap2 w2 hG
  obtain ⟨hq, hO, c0, f0, hfr⟩ := HQ.out.appended (x := ⟨kx, tx⟩) ((Only.refl _ _).alloc _) hG
  have HQ2 := Lib.hid hq
  have HO := Lib.hid hO
  have HFR := Lib.hid hfr
  clear hq hO hfr hG
  go_wp2_with fail
  rw [half L.length]
  obtain ⟨p0, HP0⟩ : ∃ p, Hid ((L.length - 1) / 2 = p) := ⟨_, Lib.hid rfl⟩
  rw [HP0.out]
  obtain ⟨w3, HW3⟩ : ∃ w3, Hid (w2.setCell ⟨ob, 0, none⟩ (.slice a2 (L.length + 1) cap2) = w3) := ⟨_, Lib.hid rfl⟩
  rw [HW3.out] at HQ2 HO ⊢
  have HI0 : Hid (Up w w3 ob mb a a2 cap2 L ⟨kx, tx⟩ L.length (L ++ [⟨kx, tx⟩])) := Lib.hid ⟨HQ2.out, up_start HH.out _, by simp, List.Perm.refl _, HO.out⟩
  clear c0 f0 HW3 HQ2 HO
  go_loopw [4, 5] (fun i p wr => ∃ (j q : Nat) (L' : List It), i = .int .i64 (j : Int) ∧ p = .int .i64 (q : Int) ∧ j ≤ L.length ∧ Hid ((j - 1) / 2 = q) ∧ Hid (Up w wr ob mb a a2 cap2 L ⟨kx, tx⟩ j L')) (fun i _ _ => (intOf i).toNat)
  case atStart => exact ⟨L.length, p0, _, rfl, rfl, Nat.le_refl _, HP0, HI0⟩
  case round =>
    clear HI0
    obtain ⟨j, p, L', rfl, rfl, hj, HP, HI⟩ := hrel
    have hU := HI.out
    have hlen : L'.length = L.length + 1 := by rw [hU.perm.length_eq]; simp
    have hp : (j - 1) / 2 < L'.length := by omega
    obtain ⟨g, rfl, hb, hg, hc, hf⟩ := hU.q.at (by omega)
    have q0 : wr.cell? ⟨ob, 0, none⟩ = some (.slice (some ⟨g, 0, none⟩) (L.length + 1) cap2) := by have := block_cell hU.q.obj rfl (j := 0); rw [hlen] at this; exact this
    have hpx := List.getElem?_eq_getElem hp
    have hcp := hc _ _ hpx
    have hk := kAt_eq hpx
    generalize L'[(j - 1) / 2] = P at *
    obtain ⟨kp, tp⟩ := P
    replace hcp : wr.cell? ⟨g, (j - 1) / 2, none⟩ = some (iw kp tp) := hcp
    have hpos : (0 : Int) ≤ (((j - 1) / 2 : Nat) : Int) := by omega
    have hlt : ((((j - 1) / 2 : Nat) : Int)) < ((L.length : Int) + 1) := by omega
    have HK : Hid (kAt L' ((j - 1) / 2) = kp) := Lib.hid hk
    have HL := Lib.hid hlen
    clear hU hlen hp hc hf hpx hk
    rw [HP.out] at hcp hpos hlt HK
    have hm := methodC kp tp
    have HC : Hid (∀ wx, Calls Tryd.prog 79 #[itb kp tp, iw kx tx] wx fun e w' => e = .returned (.int .i64 (ordZ kp kx)) ∧ Same wx w') := Lib.hid (fun wx => compare_any kp tp kx tx wx)
    go_wp2_with fail
    refine (HC.out wr).mono ?_
    rintro e w4 ⟨rfl, hs4⟩
    have HS4 := Lib.hid hs4
    have HKX : Hid (kAt L' j = kx) := Lib.hid (kAt_eq HI.out.at_)
    clear hs4 HC
    by_cases hcmp : kx < kp
    · have HCMP := Lib.hid hcmp
      rw [ord_pos hcmp]
      have hj0 : 0 < j := by
        rcases Nat.eq_zero_or_pos j with h0 | h0
        · have e1 := HP.out; have e2 := HK.out; have e3 := HKX.out
          have e4 : p = j := by omega
          rw [e4] at e2
          omega
        · exact h0
      have HSW := Lib.hid (swapQ (HI.out.q.still HS4.out) j p (by rw [HL.out]; omega) (by rw [HL.out]; have := HP.out; omega))
      clear hcmp hcp q0
      go_wp2_with fail
      refine HSW.out.mono ?_
      rintro e w5 ⟨rfl, hq5, ho5⟩
      have HU5 : Hid (Up w w5 ob mb a (some ⟨g, 0, none⟩) cap2 L ⟨kx, tx⟩ p (swapL L' j p)) := Lib.hid (by
        have hU := HI.out
        have hjl : j < L'.length := by rw [HL.out]; omega
        have hpl : p < L'.length := by have := HP.out; omega
        refine ⟨hq5, ?_, ?_, (swapL_perm hjl hpl).trans hU.perm, ?_⟩
        · have := up_step hU.up hj0 (by rw [HP.out, HK.out, HKX.out]; exact HCMP.out)
          rw [HP.out] at this; exact this
        · rw [swapL_get hjl hpl, if_pos rfl]; exact hU.at_
        · refine Only.trans (hU.only.trans HS4.out (fun _ _ h => h.elim)) ho5 (fun k hk h => ?_)
          rcases HFR.out k h with h | h
          · exact .inr (.inr h)
          · omega)
      have HP5 := Lib.hid (show p < j by have := HP.out; omega)
      have hpb : p < j := HP5.out
      clear hq5 ho5 HSW
      go_wp2_with fail
      rw [half p]
      obtain ⟨q, HPQ⟩ : ∃ q, Hid ((p - 1) / 2 = q) := ⟨_, Lib.hid rfl⟩
      rw [HPQ.out]
      go_roundw
      case rel => exact ⟨p, q, _, rfl, rfl, by omega, HPQ, HU5⟩
      case measure => simp [intOf]; omega
    · have hcmp' : kp ≤ kx := by omega
      have ho := ord_le hcmp'
      have HCMP := Lib.hid hcmp'
      have hge : ¬ (0 : Int) < ordZ kp kx := by omega
      clear hcmp hcmp' ho
      generalize ordZ kp kx = oz at *
      go_wp2_with fail
      go_end0
      refine ⟨rfl, _, _, L', HI.out.q.still HS4.out, up_done HI.out.up (fun _ => ?_), HI.out.perm, HI.out.only.trans HS4.out (fun _ _ h => h.elim), HFR.out⟩
      rw [HP.out, HK.out, HKX.out]
      exact HCMP.out
end Go.Proofs.YtpddddjfjmipfaaDoor.pq

/-
  AVL trees: spec.AVFind, spec.AVFirst.
-/
import Derived.Test.YtdamanckgmkbiaaAvKeep
namespace Go.Proofs.Ytdamanckgmkbiaa.av
open Go.RowKit Go.Proofs.Ytdamanckgmkbiaa.base Go.Proofs.Ytdamanckgmkbiaa.heap Go.Proofs.Ytdamanckgmkbiaa.rows
open Tre
set_option linter.unusedVariables false
def keyIn (L : List (Int × Int)) (x : Int) : Bool := L.any (fun y => y.1 == x)
/-- said of AVFind -/
def FnP (L : List (Int × Int)) (x : Int) (w : World) (e : Ending) (w' : World) : Prop := ∃ p q, e = .returned (.tuple #[.agg #[.int .i64 p, .int .i64 q], .bool (keyIn L x)]) ∧ Same w w'
set_option maxRecDepth 100000 in
set_option maxHeartbeats 1600000 in
theorem findC {w : World} {a : Option Addr} {n cap : Nat} {L : List (Int × Int)} (h : RS entc 2 w a n cap L) (hn : n ≤ 2147483647) (x : Int) : Calls Try.prog 21 #[.slice a n cap, .int .i64 x] w (FnP L x w) := by
  have hbd := h.bound
  have HR := Lib.hid h
  have HL := Lib.hid h.2
  have hz : (w.alloc (.cells #[.int .i64 0, .int .i64 0] 38)).heap[w.heap.size]? = some (.cells #[.int .i64 0, .int .i64 0] 38 (0, 0)) := heap_alloc_new' w _ _ rfl
  have HI0 : Hid (Same w (w.alloc (.cells #[.int .i64 0, .int .i64 0] 38)) ∧ (w.alloc (.cells #[.int .i64 0, .int .i64 0] 38)).heap[w.heap.size]? = some (.cells #[.int .i64 0, .int .i64 0] 38 (0, 0)) ∧ ∀ i y, i < 0 → L[i]? = some y → y.1 ≠ x) := Lib.hid ⟨(Only.refl _ _).alloc _, hz, fun i y hi => absurd hi (by omega)⟩
  clear h hz
  go_enter Try.func21, Try.ntmps21
  go_wp2_with fail
  go_loopw [10] (fun i wr => ∃ j : Nat, i = .int .i64 (j : Int) ∧ j ≤ n ∧ Hid (Same w wr ∧ wr.heap[w.heap.size]? = some (.cells #[.int .i64 0, .int .i64 0] 38 (0, 0)) ∧ ∀ i y, i < j → L[i]? = some y → y.1 ≠ x)) (fun i _ => n - (intOf i).toNat)
  case atStart => exact ⟨0, rfl, Nat.zero_le _, HI0⟩
  case round =>
    clear HI0
    obtain ⟨j, rfl, hj, HI⟩ := hrel
    obtain ⟨fb, hfb⟩ : ∃ fb, w.heap.size = fb := ⟨_, rfl⟩
    have HFB := Lib.hid hfb
    have hz2 := HI.out.2.1
    rw [hfb] at hz2 ⊢
    by_cases hlt : j < n
    · have hlt' : (j : Int) < (n : Int) := by omega
      obtain ⟨⟨kx, tx⟩, hy⟩ := HR.out.get hlt
      obtain ⟨b, off, ha, hb, hc⟩ := (HR.out.still HI.out.1).at entc_len (by omega)
      have hc2 := hc j _ hy
      have c0 : wr.cell? ⟨b, off + j * 2, none⟩ = some (.int .i64 kx) := hc2 0 _ rfl
      have c1 : wr.cell? ⟨b, off + j * 2 + 1, none⟩ = some (.int .i64 tx) := hc2 1 _ rfl
      have HY := Lib.hid hy
      subst ha
      have z0 : wr.cell? ⟨fb, 0, none⟩ = some (.int .i64 0) := block_cell hz2 rfl
      have z1 : wr.cell? ⟨fb, 1, none⟩ = some (.int .i64 0) := block_cell hz2 rfl
      have zf : ∀ i, wr.frozen? ⟨fb, i, none⟩ = false := fun i => block_free hz2
      have zl := lt_of_heap hz2
      have HZ := Lib.hid hz2
      clear hc hc2 hy hfb hz2
      by_cases hkx : kx = x
      · have hkx' : (kx == x) = true := by simpa using hkx
        have HK : Hid (keyIn L x = true) := Lib.hid (List.any_eq_true.2 ⟨(kx, tx), List.mem_of_getElem? HY.out, hkx'⟩)
        clear hkx
        go_wp2_with fail
        have HO : Hid (Same w (((wr.setCell ⟨fb, 0, none⟩ (.int .i64 kx)).setCell ⟨fb, 1, none⟩ (.int .i64 tx)).alloc (.cells #[.int .i64 kx, .int .i64 tx] 38))) := Lib.hid (by
          have h1 : Only (fun y => y = fb) wr (((wr.setCell ⟨fb, 0, none⟩ (.int .i64 kx)).setCell ⟨fb, 1, none⟩ (.int .i64 tx)).alloc (.cells #[.int .i64 kx, .int .i64 tx] 38)) := (only2 (only2 (Only.refl (fun y => y = fb) wr) rfl) rfl).alloc _
          exact new_only HI.out.1 h1 (fun k hk => by rw [HFB.out]; exact Nat.le_of_eq hk.symm))
        have hz3 : (((wr.setCell ⟨fb, 0, none⟩ (.int .i64 kx)).setCell ⟨fb, 1, none⟩ (.int .i64 tx)).alloc (.cells #[.int .i64 kx, .int .i64 tx] 38)).heap[fb]? = some (.cells #[.int .i64 kx, .int .i64 tx] 38 (0, 0)) := heap_still ((Only.refl _ _).alloc _) (setCell_heap (setCell_heap HZ.out 0 (.int .i64 kx)) 1 (.int .i64 tx))
        obtain ⟨w6, hw6⟩ : ∃ w6, (((wr.setCell ⟨fb, 0, none⟩ (.int .i64 kx)).setCell ⟨fb, 1, none⟩ (.int .i64 tx)).alloc (.cells #[.int .i64 kx, .int .i64 tx] 38)) = w6 := ⟨_, rfl⟩
        rw [hw6] at HO hz3 ⊢
        have y0 : w6.cell? ⟨fb, 0, none⟩ = some (.int .i64 kx) := block_cell hz3 rfl
        have y1 : w6.cell? ⟨fb, 1, none⟩ = some (.int .i64 tx) := block_cell hz3 rfl
        refine bodyPost_ret (v := .tuple #[.agg #[.int .i64 kx, .int .i64 tx], .bool true]) ?_ rfl ⟨kx, tx, by rw [HK.out], HO.out⟩
        simp [results, Try.results21, go_sem, y0, y1]
      · have hkx' : (kx == x) = false := by simpa using hkx
        have HI2 : Hid (Same w (wr.alloc (.cells #[.int .i64 kx, .int .i64 tx] 38)) ∧ (wr.alloc (.cells #[.int .i64 kx, .int .i64 tx] 38)).heap[fb]? = some (.cells #[.int .i64 0, .int .i64 0] 38 (0, 0)) ∧ ∀ i y, i < j + 1 → L[i]? = some y → y.1 ≠ x) := Lib.hid ⟨HI.out.1.alloc _, heap_still ((Only.refl _ _).alloc _) HZ.out, fun i y hi hy => by
          rcases Nat.lt_succ_iff_lt_or_eq.1 hi with hi | rfl
          · exact HI.out.2.2 i y hi hy
          · rw [HY.out] at hy
            cases hy
            exact hkx⟩
        clear hkx
        go_wp2_with fail
        go_roundw
        case rel => exact ⟨j + 1, by go_num, by omega, HI2⟩
        case measure => simp [intOf]; omega
    · have hlt' : ¬ (j : Int) < (n : Int) := by omega
      obtain rfl : j = n := by omega
      have z0 : wr.cell? ⟨fb, 0, none⟩ = some (.int .i64 0) := block_cell hz2 rfl
      have z1 : wr.cell? ⟨fb, 1, none⟩ = some (.int .i64 0) := block_cell hz2 rfl
      have zf : ∀ i, wr.frozen? ⟨fb, i, none⟩ = false := fun i => block_free hz2
      have zl := lt_of_heap hz2
      have HZ := Lib.hid hz2
      have HK : Hid (keyIn L x = false) := Lib.hid (by
        unfold keyIn
        rw [List.any_eq_false]
        intro y hy
        obtain ⟨i, hi, he⟩ := List.getElem_of_mem hy
        have h2 : i < j := by rw [← HL.out]; exact hi
        have := HI.out.2.2 i y h2 (by rw [List.getElem?_eq_getElem hi, he])
        simpa using this)
      clear hfb hz2
      go_wp2_with fail
      have HO : Hid (Same w ((wr.setCell ⟨fb, 0, none⟩ (.int .i64 0)).setCell ⟨fb, 1, none⟩ (.int .i64 0))) := Lib.hid (by
        have h1 : Only (fun y => y = fb) wr ((wr.setCell ⟨fb, 0, none⟩ (.int .i64 0)).setCell ⟨fb, 1, none⟩ (.int .i64 0)) := only2 (only2 (Only.refl _ _) rfl) rfl
        exact new_only HI.out.1 h1 (fun k hk => by rw [HFB.out]; exact Nat.le_of_eq hk.symm))
      have hz3 : ((wr.setCell ⟨fb, 0, none⟩ (.int .i64 0)).setCell ⟨fb, 1, none⟩ (.int .i64 0)).heap[fb]? = some (.cells #[.int .i64 0, .int .i64 0] 38 (0, 0)) := (setCell_heap (setCell_heap HZ.out 0 (.int .i64 0)) 1 (.int .i64 0))
      obtain ⟨w6, hw6⟩ : ∃ w6, ((wr.setCell ⟨fb, 0, none⟩ (.int .i64 0)).setCell ⟨fb, 1, none⟩ (.int .i64 0)) = w6 := ⟨_, rfl⟩
      rw [hw6] at HO hz3 ⊢
      have y0 : w6.cell? ⟨fb, 0, none⟩ = some (.int .i64 0) := block_cell hz3 rfl
      have y1 : w6.cell? ⟨fb, 1, none⟩ = some (.int .i64 0) := block_cell hz3 rfl
      refine bodyPost_ret (v := .tuple #[.agg #[.int .i64 0, .int .i64 0], .bool false]) ?_ rfl ⟨0, 0, by rw [HK.out], HO.out⟩
      simp [results, Try.results21, go_sem, y0, y1]
def firstS (out : List (Int × Int)) (x : Int × Int) : List (Int × Int) := if keyIn out x.1 then out else out ++ [x]
def firstL (L : List (Int × Int)) : List (Int × Int) := L.foldl firstS []
theorem first_snoc (L : List (Int × Int)) (j : Nat) (x : Int × Int) (h : L[j]? = some x) : firstL (L.take (j + 1)) = firstS (firstL (L.take j)) x := by
  rw [take_snoc L j x h]
  unfold firstL
  rw [List.foldl_append]
  rfl
theorem first_len (L : List (Int × Int)) : (firstL L).length ≤ L.length := by
  have key : ∀ (L out : List (Int × Int)), (L.foldl firstS out).length ≤ out.length + L.length := by
    intro L
    induction L with
    | nil => intro out; exact Nat.le_refl _
    | cons x L ih =>
      intro out
      have h1 := ih (firstS out x)
      have h2 : (firstS out x).length ≤ out.length + 1 := by
        unfold firstS
        split
        · omega
        · simp
      show (L.foldl firstS (firstS out x)).length ≤ out.length + (L.length + 1)
      omega
  have h := key L []
  unfold firstL
  simpa using h
/-- a list of entries, new -/
def NewE (L : List (Int × Int)) (w : World) (e : Ending) (w' : World) : Prop := ∃ a cap, e = .returned (.slice a L.length cap) ∧ New 38 entc 2 w w' a L.length cap L
set_option maxRecDepth 100000 in
set_option maxHeartbeats 1600000 in
theorem firstC {w : World} {a : Option Addr} {n cap : Nat} {L : List (Int × Int)} (h : RS entc 2 w a n cap L) (hn : n ≤ 2147483647) : Calls Try.prog 11 #[.slice a n cap] w (NewE (firstL L) w) := by
  have hbd := h.bound
  have HR := Lib.hid h
  have HL := Lib.hid h.2
  have HN0 := Lib.hid (New.nil 38 entc 2 w)
  clear h
  go_enter Try.func11, Try.ntmps11
  go_wp2_with fail
  go_loopw [3, 10] (fun o i wr => ∃ (j p : Nat) (oa : Option Addr) (oc : Nat), o = .slice oa p oc ∧ i = .int .i64 (j : Int) ∧ j ≤ n ∧ p ≤ j ∧ Hid ((firstL (L.take j)).length = p ∧ New 38 entc 2 w wr oa p oc (firstL (L.take j)))) (fun _ i _ => n - (intOf i).toNat)
  case atStart => exact ⟨0, 0, none, 0, rfl, rfl, Nat.zero_le _, Nat.le_refl _, Lib.hid ⟨rfl, HN0.out⟩⟩
  case round =>
    clear HN0
    obtain ⟨j, p, oa, oc, rfl, rfl, hj, hp, HG⟩ := hrel
    have hbo := HG.out.2.row.bound
    by_cases hlt : j < n
    · have hlt' : (j : Int) < (n : Int) := by omega
      obtain ⟨⟨kx, tx⟩, hy⟩ := HR.out.get hlt
      obtain ⟨b, off, ha, hb, hc⟩ := (HR.out.still HG.out.2.same).at entc_len (by omega)
      have hc2 := hc j _ hy
      have c0 : wr.cell? ⟨b, off + j * 2, none⟩ = some (.int .i64 kx) := hc2 0 _ rfl
      have c1 : wr.cell? ⟨b, off + j * 2 + 1, none⟩ = some (.int .i64 tx) := hc2 1 _ rfl
      have HY := Lib.hid hy
      subst ha
      have HC : Hid (∀ wx, Same wr wx → Calls Try.prog 21 #[.slice oa p oc, .int .i64 kx] wx (fun e w' => ∃ u v, e = .returned (.tuple #[.agg #[.int .i64 u, .int .i64 v], .bool (keyIn (firstL (L.take j)) kx)]) ∧ Same wx w')) := Lib.hid (fun wx hx => findC (HG.out.2.row.rs.still hx) (by omega) kx)
      have hS1 : Same wr (wr.alloc (.cells #[.int .i64 kx, .int .i64 tx] 38)) := (Only.refl _ _).alloc _
      have HB : Hid (∀ wx, Same (wr.alloc (.cells #[.int .i64 kx, .int .i64 tx] 38)) wx → wx.cell? ⟨wr.heap.size, 0, none⟩ = some (.int .i64 kx) ∧ wx.cell? ⟨wr.heap.size, 1, none⟩ = some (.int .i64 tx) ∧ wr.heap.size < wx.heap.size ∧ Same wr wx) := Lib.hid (fun wx hx => by
        have h1 := heap_still hx (heap_alloc_new' wr (.cells #[.int .i64 kx, .int .i64 tx] 38) _ rfl)
        exact ⟨block_cell h1 rfl, block_cell h1 rfl, lt_of_heap h1, hS1.trans hx⟩)
      clear hc hc2 hy hS1
      cases hin : keyIn (firstL (L.take j)) kx with
      | true =>
        rw [hin] at HC
        have HI2 : Hid ((firstL (L.take (j + 1))).length = p ∧ firstL (L.take (j + 1)) = firstL (L.take j)) := Lib.hid (by
          rw [first_snoc L j _ HY.out]
          unfold firstS
          rw [if_pos hin]
          exact ⟨HG.out.1, rfl⟩)
        clear hin
        go_wp2_with (first | (go_at_call 21; refine (HC.out _ (by with_reducible repeat (first | exact Only.refl _ _ | apply Only.alloc | apply Only.drew))).mono ?_; go_loud (rintro e w3 ⟨u, v, rfl, hs⟩; have HS := Lib.hid (HB.out w3 hs); have z0 := HS.out.1; have z1 := HS.out.2.1; have zl := HS.out.2.2.1; clear hs)) | fail)
        go_roundw
        case rel => exact ⟨j + 1, p, oa, oc, rfl, by go_num, by omega, by omega, Lib.hid ⟨HI2.out.1, by rw [HI2.out.2]; exact HG.out.2.still (HS.out.2.2.2.alloc _)⟩⟩
        case measure => simp [intOf]; omega
      | false =>
        rw [hin] at HC
        have HI2 : Hid ((firstL (L.take (j + 1))).length = p + 1 ∧ firstL (L.take (j + 1)) = firstL (L.take j) ++ [(kx, tx)]) := Lib.hid (by
          rw [first_snoc L j _ HY.out]
          unfold firstS
          rw [if_neg (by rw [hin]; decide)]
          exact ⟨by rw [List.length_append, HG.out.1]; rfl, rfl⟩)
        clear hin
        go_wp2_with (first
          | (go_at_call 21; refine (HC.out _ (by with_reducible repeat (first | exact Only.refl _ _ | apply Only.alloc | apply Only.drew))).mono ?_; go_loud (rintro e w3 ⟨u, v, rfl, hs⟩; have HS := Lib.hid (HB.out w3 hs); have z0 := HS.out.1; have z1 := HS.out.2.1; have zl := HS.out.2.2.1; clear hs))
          | (at_builtin; refine wpList_append (p + 1) ((firstL (L.take j)).flatMap entc ++ [.int .i64 kx, .int .i64 tx]) rfl _ _ _ _ rfl slAE rfl ((HG.out.2.still HS.out.2.2.2).row.1.keep (S := fun _ => False) (by repeat (first | exact Only.refl _ _ | apply Only.alloc | apply Only.drew)) (fun _ _ => id)) rfl (Src.row (size := 2) (cs := #[.int .i64 kx, .int .i64 tx]) (t := 38) (fr := (0, 0)) Try.underlying29 (by exact heap_alloc_new' _ _ _ (by simp)) 1 1 rfl (by simp [Value.oneCell'])) rfl rfl (by unfold maxLen; omega) (by omega) ?_)
          | fail)
        intro oa2 oc2 w5 hG
        have HG2 : Hid ((firstL (L.take (j + 1))).length = p + 1 ∧ New 38 entc 2 w w5 oa2 (p + 1) oc2 (firstL (L.take (j + 1)))) := Lib.hid ⟨HI2.out.1, by
          rw [HI2.out.2]
          exact (HG.out.2.still HS.out.2.2.2).step (y := (kx, tx)) (((Only.refl _ _).alloc _).alloc _) hG⟩
        clear hG
        go_wp2_with fail
        go_roundw
        case rel => exact ⟨j + 1, p + 1, oa2, oc2, rfl, by go_num, by omega, by omega, HG2⟩
        case measure => simp [intOf]; omega
    · have hlt' : ¬ (j : Int) < (n : Int) := by omega
      obtain rfl : j = n := by omega
      go_wp2_with fail
      go_ret
      have h := HG.out
      rw [List.take_of_length_le (by rw [HL.out]; exact Nat.le_refl _)] at h
      obtain ⟨rfl, h2⟩ := h
      exact ⟨oa, oc, rfl, h2⟩
end Go.Proofs.Ytdamanckgmkbiaa.av

/-
  AVL trees: laws.avKeys.
-/
import Derived.Test.YtdamanckgmkbiaaAvSlc
import Derived.Deep.RegionHeld3
namespace Go.Proofs.Ytdamanckgmkbiaa.av
open Go.RowKit Go.Proofs.Ytdamanckgmkbiaa.base Go.Proofs.Ytdamanckgmkbiaa.heap Go.Proofs.Ytdamanckgmkbiaa.rows
open Tre
set_option linter.unusedVariables false
def ic (n : Int) : List Value := [.int .i64 n]
theorem slInt : SliceOf Try.prog 41 3 1 8 := SliceOf.mk (z := .int .i64 0) Try.underlying41 (by kernel_rfl) rfl
def KyP (L : List (Int × Int)) (w : World) (e : Ending) (w' : World) : Prop := ∃ ka kc qa qc, e = .returned (.tuple #[.slice ka L.length kc, .slice qa L.length qc]) ∧ New 3 ic 1 w w' ka L.length kc (L.map Prod.fst) ∧ New 38 entc 2 w w' qa L.length qc (asks (L.map Prod.fst))
set_option maxRecDepth 100000 in
set_option maxHeartbeats 4000000 in
theorem keysC {w : World} {a : Option Addr} {n cap : Nat} {L : List (Int × Int)} (h : RS entc 2 w a n cap L) (hn : n < 100000) : Calls Try.prog 13 #[.slice a n cap] w (KyP L w) := by
  have hbd := h.bound
  have HR := Lib.hid h
  have HL := Lib.hid h.2
  have HN0 : Hid (New 3 ic 1 w w none 0 0 ((L.take 0).map Prod.fst) ∧ New 38 entc 2 w w none 0 0 (asks ((L.take 0).map Prod.fst))) := Lib.hid ⟨New.nil _ _ _ _, New.nil _ _ _ _⟩
  clear h
  go_enter Try.func13, Try.ntmps13
  go_wp2_with fail
  go_loopw [4, 5, 10] (fun k q i wr => ∃ (j : Nat) (ka qa : Option Addr) (kc qc : Nat), k = .slice ka j kc ∧ q = .slice qa j qc ∧ i = .int .i64 (j : Int) ∧ j ≤ n ∧ Hid (New 3 ic 1 w wr ka j kc ((L.take j).map Prod.fst) ∧ New 38 entc 2 w wr qa j qc (asks ((L.take j).map Prod.fst)))) (fun _ _ i _ => n - (intOf i).toNat)
  case atStart => exact ⟨0, none, none, 0, 0, rfl, rfl, rfl, Nat.zero_le _, HN0⟩
  case round =>
    clear HN0
    obtain ⟨j, ka, qa, kc, qc, rfl, rfl, rfl, hj, HI⟩ := hrel
    have hbk := HI.out.1.row.bound
    have hbq := HI.out.2.row.bound
    by_cases hlt : j < n
    · have hlt' : (j : Int) < (n : Int) := by omega
      obtain ⟨⟨kx, tx⟩, hy⟩ := HR.out.get hlt
      obtain ⟨b, off, ha, hb, hc⟩ := (HR.out.still HI.out.1.same).at entc_len (by omega)
      have hc2 := hc j _ hy
      have c0 : wr.cell? ⟨b, off + j * 2, none⟩ = some (.int .i64 kx) := hc2 0 _ rfl
      have c1 : wr.cell? ⟨b, off + j * 2 + 1, none⟩ = some (.int .i64 tx) := hc2 1 _ rfl
      have HY := Lib.hid hy
      subst ha
      clear hc hc2 hy
      go_upto_region 6 with fail
      have HS6 : Hid (Same wr (wr.alloc (.cells #[.int .i64 kx, .int .i64 tx] 38))) := Lib.hid ((Only.refl _ wr).alloc _)
      have hE6 : (wr.alloc (.cells #[.int .i64 kx, .int .i64 tx] 38)).heap[wr.heap.size]? = some (.cells #[.int .i64 kx, .int .i64 tx] 38 (0, 0)) := heap_alloc_new' wr _ _ rfl
      have HNQ : Hid (¬ At ka wr.heap.size ∧ ¬ At qa wr.heap.size) := Lib.hid ⟨fun e => absurd (HI.out.1.row.1.lt _ e) (Nat.lt_irrefl _), fun e => absurd (HI.out.2.row.1.lt _ e) (Nat.lt_irrefl _)⟩
      obtain ⟨w6, hw6⟩ : ∃ w6, wr.alloc (.cells #[.int .i64 kx, .int .i64 tx] 38) = w6 := ⟨_, rfl⟩
      obtain ⟨xb, hxb⟩ : ∃ xb, wr.heap.size = xb := ⟨_, rfl⟩
      rw [hw6] at HS6 hE6 ⊢
      rw [hxb] at hE6 HNQ ⊢
      clear hw6 hxb
      have HI6 : Hid (New 3 ic 1 w w6 ka j kc ((L.take j).map Prod.fst) ∧ New 38 entc 2 w w6 qa j qc (asks ((L.take j).map Prod.fst))) := Lib.hid ⟨HI.out.1.still HS6.out, HI.out.2.still HS6.out⟩
      have e0 : w6.cell? ⟨xb, 0, none⟩ = some (.int .i64 kx) := block_cell hE6 rfl
      have el := lt_of_heap hE6
      clear hE6 c0 c1 HS6
      have HY1 : Hid ((L.take (j + 1)).map Prod.fst = (L.take j).map Prod.fst ++ [kx] ∧ asks ((L.take (j + 1)).map Prod.fst) = asks ((L.take j).map Prod.fst) ++ [(kx, 0)]) := Lib.hid (by
        rw [take_snoc L j _ HY.out, List.map_append]
        exact ⟨rfl, by unfold asks; rw [List.map_append]; rfl⟩)
      have HK6 : Hid (∀ wx, Same w6 wx → wx.cell? ⟨xb, 0, none⟩ = some (.int .i64 kx)) := Lib.hid (fun wx hx => (hx.cell (p := ⟨xb, 0, none⟩) el id).trans e0)
      have H5 : Hid (∀ wx, Same w6 wx → Own 3 1 wx ka j kc (((L.take j).map Prod.fst).flatMap ic)) := Lib.hid (fun wx hx => (HI6.out.1.row.still hx).1)
      have HONE : Hid (∀ w8 w9 a2 c2, Same w6 w8 → Grew 3 1 w8 w9 ka a2 1 (j + 1) kc c2 (((L.take j).map Prod.fst).flatMap ic ++ [.int .i64 kx]) → New 3 ic 1 w w9 a2 (j + 1) c2 ((L.take (j + 1)).map Prod.fst) ∧ New 38 entc 2 w w9 qa j qc (asks ((L.take j).map Prod.fst)) ∧ ∀ wx, Same w9 wx → wx.cell? ⟨xb, 0, none⟩ = some (.int .i64 kx)) := Lib.hid (fun w8 w9 a2 c2 ho hG => by
        have h1 := HI6.out.1.still ho
        have h2 := HI6.out.2.still ho
        rw [HY1.out.1]
        have he : Only (At ka) w6 w9 := (ho.mono (fun _ _ f => f.elim)).trans hG.only (fun _ _ e => e)
        exact ⟨h1.step (y := kx) (Only.refl _ _) hG, h2.keepT hG.only (row_ne h1 (by decide)) h1.new, fun wx hx => (hx.cell (p := ⟨xb, 0, none⟩) (Nat.lt_of_lt_of_le el he.size) id).trans ((he.cell (p := ⟨xb, 0, none⟩) el HNQ.out.1).trans e0)⟩)
      have HTWO : Hid (∀ w9 a2 c2 w8 w10 a3, ∀ {c3 : Nat}, New 3 ic 1 w w9 a2 (j + 1) c2 ((L.take (j + 1)).map Prod.fst) → New 38 entc 2 w w9 qa j qc (asks ((L.take j).map Prod.fst)) → (∀ wx, Same w9 wx → wx.cell? ⟨xb, 0, none⟩ = some (.int .i64 kx)) → Same w9 w8 → Grew 38 2 w8 w10 qa a3 1 (j + 1) qc c3 ((asks ((L.take j).map Prod.fst)).flatMap entc ++ [.int .i64 kx, .int .i64 0]) → New 3 ic 1 w w10 a2 (j + 1) c2 ((L.take (j + 1)).map Prod.fst) ∧ New 38 entc 2 w w10 a3 (j + 1) c3 (asks ((L.take (j + 1)).map Prod.fst)) ∧ ∀ wx, Same w10 wx → wx.cell? ⟨xb, 0, none⟩ = some (.int .i64 kx)) := Lib.hid (fun w9 a2 c2 w8 w10 a3 c3 hM hQ hK ho hG => by
        have h1 := hM.still ho
        have h2 := hQ.still ho
        have hc : w8.cell? ⟨xb, 0, none⟩ = some (.int .i64 kx) := hK w8 ho
        have hl : xb < w8.heap.size := World.block_lt_of_cell? w8 ⟨xb, 0, none⟩ hc
        rw [HY1.out.2]
        exact ⟨h1.keepT hG.only (row_ne h2 (by decide)) h2.new, h2.step (y := (kx, 0)) (Only.refl _ _) hG, fun wx hx => (hx.cell (p := ⟨xb, 0, none⟩) (Nat.lt_of_lt_of_le hl hG.only.size) id).trans ((hG.only.cell (p := ⟨xb, 0, none⟩) hl HNQ.out.2).trans hc)⟩)
      have HOLD : Hid (∀ (w8 w9 : World) (a2 : Option Addr) (c2 b : Nat) (o : Obj), Same w6 w8 → Grew 3 1 w8 w9 ka a2 1 (j + 1) kc c2 (((L.take j).map Prod.fst).flatMap ic ++ [.int .i64 kx]) → w6.heap.size ≤ b → w8.heap[b]? = some o → w9.heap[b]? = some o) := Lib.hid (fun w8 w9 a2 c2 b o ho hG hb h => hG.only.obj h (fun e => by have := HI6.out.1.row.1.lt b e; omega))
      clear HI6 HI HR HL HY hbd hj hb HNQ
      go_region_held3 (fun wx => wx.cell? ⟨xb, 0, none⟩ = some (.int .i64 kx))
        (first | (refine HK6.out _ ?_; (with_reducible repeat (first | exact Only.refl _ _ | apply Only.alloc | apply Only.drew)); done) | (refine HKM.out _ ?_; (with_reducible repeat (first | exact Only.refl _ _ | apply Only.alloc | apply Only.drew)); done) | (refine HKN.out _ ?_; (with_reducible repeat (first | exact Only.refl _ _ | apply Only.alloc | apply Only.drew)); done)) (first
        | ((with_reducible show (ite _ (Oper.wp _ _ _ (World.drew (World.alloc w6 _)) _ _) _)); refine step_app (j + 1) (((L.take j).map Prod.fst).flatMap ic ++ [.int .i64 kx]) (by rfl) _ _ _ _ (by rfl) slInt ?_ (H5.out _ (((Only.refl _ w6).alloc _).drew)) ?_ (Src.row (size := 1) (cs := #[.int .i64 kx]) (t := 3) (fr := (0, 0)) Try.underlying41 (show ((w6.alloc (.cells #[.int .i64 kx] 3)).drew).heap[w6.heap.size]? = _ from heap_alloc_new' w6 _ _ rfl) 1 1 rfl (by simp [Value.oneCell'])) rfl rfl (by unfold maxLen; omega) (by omega) ?_; (go_simp); (go_simp); intro a2 c2 w9 hG; have HM := Lib.hid (HONE.out _ _ _ _ (((Only.refl _ w6).alloc _).drew) hG); have HKM := Lib.hid (HM.out.2.2); clear hG)
        | ((with_reducible show (ite _ (Oper.wp _ _ _ (World.drew (World.alloc (World.alloc w6 (.cells #[.int .i64 kx] 3)) _)) _ _) _)); refine step_app (j + 1) (((L.take j).map Prod.fst).flatMap ic ++ [.int .i64 kx]) (by rfl) _ _ _ _ (by rfl) slInt ?_ (H5.out _ ((((Only.refl _ w6).alloc _).alloc _).drew)) ?_ (Src.row (size := 1) (cs := #[.int .i64 kx]) (t := 3) (fr := (0, 0)) Try.underlying41 (show (((w6.alloc (.cells #[.int .i64 kx] 3)).alloc (.cells #[.int .i64 kx, .int .i64 0] 38)).drew).heap[w6.heap.size]? = _ from heap_still (((Only.refl _ _).alloc _).drew) (heap_alloc_new' w6 _ _ rfl)) 1 1 rfl (by simp [Value.oneCell'])) rfl rfl (by unfold maxLen; omega) (by omega) ?_; (go_simp); (go_simp); intro a2 c2 w9 hG; have HM := Lib.hid (HONE.out _ _ _ _ ((((Only.refl _ w6).alloc _).alloc _).drew) hG); have HKM := Lib.hid (HM.out.2.2); have hrow := HOLD.out _ _ _ _ (w6.heap.size + 1) (.cells #[.int .i64 kx, .int .i64 0] 38) ((((Only.refl _ w6).alloc _).alloc _).drew) hG (Nat.le_succ _) (show (((w6.alloc (.cells #[.int .i64 kx] 3)).alloc (.cells #[.int .i64 kx, .int .i64 0] 38)).drew).heap[w6.heap.size + 1]? = _ from heap_alloc_new' (w6.alloc (.cells #[.int .i64 kx] 3)) _ _ (by simp only [World.alloc, Array.size_push])); clear hG)
        | ((with_reducible show (ite _ (Oper.wp _ _ _ (World.drew (World.alloc (World.alloc w6 (.cells #[.int .i64 kx, .int .i64 0] 38)) _)) _ _) _)); refine step_app (j + 1) (((L.take j).map Prod.fst).flatMap ic ++ [.int .i64 kx]) (by rfl) _ _ _ _ (by rfl) slInt ?_ (H5.out _ ((((Only.refl _ w6).alloc _).alloc _).drew)) ?_ (Src.row (size := 1) (cs := #[.int .i64 kx]) (t := 3) (fr := (0, 0)) Try.underlying41 (show (((w6.alloc (.cells #[.int .i64 kx, .int .i64 0] 38)).alloc (.cells #[.int .i64 kx] 3)).drew).heap[w6.heap.size + 1]? = _ from heap_alloc_new' (w6.alloc (.cells #[.int .i64 kx, .int .i64 0] 38)) _ _ (by simp only [World.alloc, Array.size_push])) 1 1 rfl (by simp [Value.oneCell'])) rfl rfl (by unfold maxLen; omega) (by omega) ?_; (go_simp); (go_simp); intro a2 c2 w9 hG; have HM := Lib.hid (HONE.out _ _ _ _ ((((Only.refl _ w6).alloc _).alloc _).drew) hG); have HKM := Lib.hid (HM.out.2.2); have hrow := HOLD.out _ _ _ _ w6.heap.size (.cells #[.int .i64 kx, .int .i64 0] 38) ((((Only.refl _ w6).alloc _).alloc _).drew) hG (Nat.le_refl _) (show (((w6.alloc (.cells #[.int .i64 kx, .int .i64 0] 38)).alloc (.cells #[.int .i64 kx] 3)).drew).heap[w6.heap.size]? = _ from heap_still (((Only.refl _ _).alloc _).drew) (heap_alloc_new' w6 _ _ rfl)); clear hG)
        | ((with_reducible show (ite _ (Oper.wp _ _ _ (World.alloc w9 _) _ _) _)); refine step_app (j + 1) ((asks ((L.take j).map Prod.fst)).flatMap entc ++ [.int .i64 kx, .int .i64 0]) (by rfl) _ _ _ _ (by rfl) slAE ?_ (HM.out.2.1.still ((Only.refl _ w9).alloc _)).row.1 ?_ (Src.row (size := 2) (cs := #[.int .i64 kx, .int .i64 0]) (t := 38) (fr := (0, 0)) Try.underlying29 (by exact heap_alloc_new' _ _ _ rfl) 1 1 rfl (by simp [Value.oneCell'])) rfl rfl (by unfold maxLen; omega) (by omega) ?_; (go_simp); (go_simp); intro a3 c3 w10 hG; have HN := Lib.hid (HTWO.out _ _ _ _ _ _ HM.out.1 HM.out.2.1 HKM.out ((Only.refl _ w9).alloc _) hG); have HKN := Lib.hid HN.out.2.2; clear hG)
        | ((with_reducible show (ite _ (Oper.wp _ _ _ w9 _ _) _)); refine step_app (j + 1) ((asks ((L.take j).map Prod.fst)).flatMap entc ++ [.int .i64 kx, .int .i64 0]) (by rfl) _ _ _ _ (by rfl) slAE ?_ (HM.out.2.1.still (Only.refl _ w9)).row.1 ?_ (Src.row (size := 2) (cs := #[.int .i64 kx, .int .i64 0]) (t := 38) (fr := (0, 0)) Try.underlying29 hrow 1 1 rfl (by simp [Value.oneCell'])) rfl rfl (by unfold maxLen; omega) (by omega) ?_; (go_simp); (go_simp); intro a3 c3 w10 hG; have HN := Lib.hid (HTWO.out _ _ _ _ _ _ HM.out.1 HM.out.2.1 HKM.out (Only.refl _ w9) hG); have HKN := Lib.hid HN.out.2.2; clear hG)
        | fail)
      all_goals
        have HI9 : Hid (New 3 ic 1 w w10 a2 (j + 1) c2 ((L.take (j + 1)).map Prod.fst) ∧ New 38 entc 2 w w10 a3 (j + 1) c3 (asks ((L.take (j + 1)).map Prod.fst))) := Lib.hid ⟨HN.out.1, HN.out.2.1⟩
        first
        | (go_wp2_with fail)
        | skip
        exact ⟨⟨j + 1, a2, a3, c2, c3, rfl, rfl, by go_num, by omega, HI9⟩, by simp [intOf]; omega⟩
    · have hlt' : ¬ (j : Int) < (n : Int) := by omega
      obtain rfl : j = n := by omega
      have hLt : L.take j = L := List.take_of_length_le (by rw [HL.out]; exact Nat.le_refl _)
      rw [hLt] at HI
      go_wp2_with fail
      go_ret2
      refine ⟨ka, kc, qa, qc, by rw [HL.out]; rfl, ?_⟩
      rw [HL.out]
      exact HI.out
end Go.Proofs.Ytdamanckgmkbiaa.av

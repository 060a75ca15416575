/-
  spec's TRStep: the entries that are put.
-/
import Derived.Test.YtcjifjfcjimefaaDoorZXfTst
namespace Go.Proofs.YtcjifjfcjimefaaDoor.xf
open Go.ChangeShapes Go.WideShapes Go.ChangeAt Go.RowKit Go.Proofs.YtcjifjfcjimefaaDoor.base Go.Proofs.YtcjifjfcjimefaaDoor.heap Go.Proofs.YtcjifjfcjimefaaDoor.rows Go.Proofs.YtcjifjfcjimefaaDoor.mapn
set_option linter.unusedVariables false

theorem Lst.keep {w w' : World} {a : Option Addr} {n cap : Nat} {L : List It} (h : Lst w a n cap L) {S : Nat → Prop} (hs : Only S w w') (hn : ∀ k, At a k → ¬ S k) : Lst w' a n cap L := ⟨h.row.keep hs hn, h.nil, fun k hk => Nat.lt_of_lt_of_le (h.lt k hk) hs.size⟩
/-- in the course of it: the list, and the answer's row -/
structure Ing (w wr : World) (g : Nat) (ia : Option Addr) (im ic : Nat) (ka : Option Addr) (kc : Nat) (a la : Option Addr) (ln lc : Nat) (L : List It) (xa : Option Addr) (xn xc : Nat) (X : List It) : Prop where
  prp : Prp w wr g 1 ia im ic ka kc xa xn xc 0 false
  lst : Lst wr la ln lc L
  new : ∀ k, At la k → (At a k ∧ k < w.heap.size) ∨ g + 2 < k
  row : OS 43 itc 2 wr xa xn xc X
  xnew : ∀ k, At xa k → g + 2 < k ∧ ¬ At la k
theorem Ing.step {w wr w5 w6 : World} {g : Nat} {ia ka a la la2 xa xa2 : Option Addr} {im ic kc ln lc ln2 lc2 xn xc xc2 on : Nat} {L L2 X O : List It} (h : Ing w wr g ia im ic ka kc a la ln lc L xa xn xc X)
    (hN : New 43 itc 2 wr w5 la2 ln2 lc2 L2) (h0 : 0 < ln2) (hO : O.length = on) (hG : Grew 43 2 w5 w6 xa xa2 on (xn + on) xc xc2 (X.flatMap itc ++ O.flatMap itc)) :
    Prp w w6 g 1 ia im ic ka kc xa xn xc 0 false ∧ Ing w (w6.setCell ⟨g + 2, 0, none⟩ (.slice xa2 (xn + on) xc2)) g ia im ic ka kc a la2 ln2 lc2 L2 xa2 (xn + on) xc2 (X ++ O) := by
  have hx : ∀ k, At xa k → k < wr.heap.size := h.row.1.lt
  have hgw := lt_of_heap h.prp.ans
  have z1 := hN.same.size
  have z2 := hG.only.size
  have hz := h.prp.same.size
  have hla : ∀ k, At la2 k → k < w5.heap.size := hN.row.1.lt
  have hOx : Only (fun k => k = g + 2) w6 (w6.setCell ⟨g + 2, 0, none⟩ (.slice xa2 (xn + on) xc2)) := (Only.refl _ _).setCell ⟨g + 2, 0, none⟩ _ (fun _ => rfl)
  have hP5 := h.prp.still hN.same
  have hP6 : Prp w w6 g 1 ia im ic ka kc xa xn xc 0 false := hP5.keep hG.only (fun k hk => (h.xnew k hk).1)
  have hx2 : ∀ k, At xa2 k → g + 2 < k ∧ ¬ At la2 k := fun k hk => by
    rcases hG.fresh k hk with h' | h'
    · exact ⟨(h.xnew k h').1, fun e => by have := hN.new k e; have := hx k h'; omega⟩
    · exact ⟨by omega, fun e => by have := hla k e; omega⟩
  have hRL : RS itc 2 w6 la2 ln2 lc2 L2 := hN.row.rs.keep hG.only (fun k hk e => by have := hN.new k hk; have := hx k e; omega)
  refine ⟨hP6, ⟨hP6.put _ _ _ _ _ 0 _ rfl, ⟨hRL.keep hOx (fun k hk e => by have := hN.new k hk; have e' : k = g + 2 := e; omega), fun e => by omega, fun k hk => Nat.lt_of_lt_of_le (hla k hk) (Nat.le_trans z2 hOx.size)⟩, fun k hk => .inr (Nat.lt_of_lt_of_le hgw (hN.new k hk)), ⟨?_, by rw [List.length_append, h.row.2, hO]⟩, hx2⟩⟩
  rw [List.flatMap_append]
  exact hG.own.keep hOx (fun k hk e => by have := (hx2 k hk).1; have e' : k = g + 2 := e; omega)
set_option maxRecDepth 100000 in
set_option maxHeartbeats 1600000 in
theorem trStep1 (a : Option Addr) (n cap : Nat) (L : List It) (ia : Option Addr) (im ic : Nat) (I : List It) (b off kc : Nat) (key : Nat) (w : World) (h : Lst w a n cap L) (hk : RL uv w (some ⟨b, off, none⟩) 1 kc [key]) (hn : n ≤ 900000) (hI : RS itc 2 w ia im ic I) (him : im ≤ 1000) :
    Calls Tryd.prog 18 #[.slice a n cap, .agg #[.int .i64 1, .slice ia im ic, .slice (some ⟨b, off, none⟩) 1 kc], .bool true] w (Sted true w a L ⟨1, ia, im, ic, I, some ⟨b, off, none⟩, 1, kc, [key]⟩) := by
  have HI := Lib.hid hI
  have bi := hI.bound
  clear hI
  have HL := Lib.hid h
  have bd := h.row.bound
  have hln := h.row.2
  obtain ⟨b', off', ha, hb, hc⟩ := hk.at (by omega)
  cases ha
  have c0 : w.cell? ⟨b, off, none⟩ = some (.int .u64 (key : Int)) := hc 0 key rfl
  have HC := Lib.hid (And.intro hb c0)
  clear h hk hc c0
  go_enter Tryd.func18, Tryd.ntmps18
  go_upto_region 3 with fail
  obtain ⟨w3, hw3⟩ : ∃ w3, (((w.alloc (.cells #[.int .i64 1, .slice ia im ic, .slice (some ⟨b, off, none⟩) 1 kc] 34)).alloc (.cells #[.slice none 0 0, .int .u64 0, .bool false] 55)).alloc (.cells #[.slice none 0 0, .int .u64 0, .bool false] 55)) = w3 := ⟨_, rfl⟩
  obtain ⟨g, hg⟩ : ∃ g, w.heap.size = g := ⟨_, rfl⟩
  have HP : Hid (Prp w w3 g 1 ia im ic (some ⟨b, off, none⟩) kc none 0 0 0 false) := Lib.hid (by
    rw [← hw3, ← hg]
    exact ⟨((Only.refl (fun _ => False) _).alloc _ |>.alloc _).obj (heap_alloc_new _ _) id, ((Only.refl (fun _ => False) _).alloc _).obj (heap_alloc_new' _ _ _ (by simp)) id, heap_alloc_new' _ _ _ (by simp), (((Only.refl _ _).alloc _).alloc _).alloc _, Nat.le_refl _⟩)
  rw [hw3]
  simp only [hg]
  clear hw3 hg hb
  have b0 : w3.cell? ⟨g, 0, none⟩ = some (.int .i64 1) := block_cell HP.out.box rfl
  have b1 : w3.cell? ⟨g, 1, none⟩ = some (.slice ia im ic) := block_cell HP.out.box rfl
  have b2 : w3.cell? ⟨g, 2, none⟩ = some (.slice (some ⟨b, off, none⟩) 1 kc) := block_cell HP.out.box rfl
  have c3 : w3.cell? ⟨b, off, none⟩ = some (.int .u64 (key : Int)) := (HP.out.same.cell (p := ⟨b, off, none⟩) HC.out.1 id).trans HC.out.2
  have lg : g < w3.heap.size := lt_of_heap HP.out.box
  have lg2 : g + 2 < w3.heap.size := lt_of_heap HP.out.ans
  have lb3 : b < w3.heap.size := Nat.lt_of_lt_of_le HC.out.1 HP.out.same.size
  have e0 : w3.cell? ⟨g + 2, 0, none⟩ = some (.slice none 0 0) := block_cell HP.out.ans rfl
  have e1 : w3.cell? ⟨g + 2, 1, none⟩ = some (.int .u64 (0 : Int)) := block_cell HP.out.ans rfl
  have e2 : w3.cell? ⟨g + 2, 2, none⟩ = some (.bool false) := block_cell HP.out.ans rfl
  have f2 : ∀ i, w3.frozen? ⟨g + 2, i, none⟩ = false := fun i => block_free HP.out.ans
  have r0 : w3.cell? ⟨g + 1, 0, none⟩ = some (.slice none 0 0) := block_cell HP.out.res rfl
  have r1 : w3.cell? ⟨g + 1, 1, none⟩ = some (.int .u64 0) := block_cell HP.out.res rfl
  have r2 : w3.cell? ⟨g + 1, 2, none⟩ = some (.bool false) := block_cell HP.out.res rfl
  have f1 : ∀ i, w3.frozen? ⟨g + 1, i, none⟩ = false := fun i => block_free HP.out.res
  have lg1 : g + 1 < w3.heap.size := lt_of_heap HP.out.res
  have HG0 : Hid (Ing w w3 g ia im ic (some ⟨b, off, none⟩) kc a a n cap (puts L (I.take 0)) none 0 0 []) := Lib.hid ⟨HP.out, HL.out.still HP.out.same, fun k hk => .inl ⟨hk, HL.out.lt k hk⟩, OS.nil _ _ _ _, fun k hk => hk.elim⟩
  go_wp2_with fail
  go_loopw [0, 10, 11] (fun lv ov kv wr => ∃ (k : Nat) (la : Option Addr) (ln lc : Nat) (oa : Option Addr) (on oc : Nat) (xa : Option Addr) (xn xc : Nat) (X : List It), lv = .slice la ln lc ∧ ov = .slice oa on oc ∧ kv = .int .i64 (k : Int) ∧ k ≤ im ∧ xn ≤ k ∧ ln ≤ n + k ∧ Hid (Ing w wr g ia im ic (some ⟨b, off, none⟩) kc a la ln lc (puts L (I.take k)) xa xn xc X)) (fun _ _ kv _ => im - (intOf kv).toNat)
  case atStart => exact ⟨0, a, n, cap, none, 0, 0, none, 0, 0, [], rfl, rfl, rfl, Nat.zero_le _, Nat.le_refl _, Nat.le_refl _, HG0⟩
  case round =>
    clear HG0 b0 b1 b2 c3 lg lg2 lb3 e0 e1 e2 f2 r0 r1 r2 f1 lg1
    obtain ⟨k, la, ln, lc, oa, on, oc, xa, xn, xc, X, rfl, rfl, rfl, hk, hxk, hlk, HG⟩ := hrel
    have b1 : wr.cell? ⟨g, 1, none⟩ = some (.slice ia im ic) := block_cell HG.out.prp.box rfl
    have lg : g < wr.heap.size := lt_of_heap HG.out.prp.box
    have hln2 := HG.out.lst.row.2
    have hbl := HG.out.lst.row.bound
    have hbx := HG.out.row.bound
    by_cases hlt : k < im
    · have hlt' : (k : Int) < (im : Int) := by omega
      obtain ⟨y, hy⟩ := HI.out.get hlt
      obtain ⟨b', off', ha, hb', hc⟩ := (HI.out.still HG.out.prp.same).at itc_len (by omega)
      have d0 : wr.cell? ⟨b', off' + k * 2, none⟩ = some (.int .u64 (y.1 : Int)) := hc k y hy 0 _ rfl
      have d1 : wr.cell? ⟨b', off' + k * 2 + 1, none⟩ = some (.int .i64 y.2) := hc k y hy 1 _ rfl
      have HY := Lib.hid hy
      have HPU := Lib.hid (trPut_of wr la ln lc (puts L (I.take k)) y HG.out.lst.row HG.out.lst.nil (by omega))
      rw [ha] at b1
      clear hc hy ha
      go_wp2_with fail
      refine HPU.out.mono ?_
      rintro e w5 ⟨la2, ln2, lc2, oa2, on2, oc2, O, rfl, hN, hO, hon⟩
      have HN := Lib.hid hN
      have HO := Lib.hid hO
      have hbo := hO.bound
      have hn2 : 0 < ln2 ∧ ln2 ≤ ln + 1 := by
        have e1 := hN.row.2
        have e2 := put_le (puts L (I.take k)) y.1 y.2
        have e3 := put_pos (puts L (I.take k)) y.1 y.2
        rw [e3] at e1
        rw [← hln2, ← hN.row.2]
        refine ⟨?_, e2⟩
        rw [hN.row.2, ← e1]
        simp
        omega
      have HE5 := Lib.hid (HG.out.prp.still hN.same)
      have x5 : w5.cell? ⟨g + 2, 0, none⟩ = some (.slice xa xn xc) := block_cell HE5.out.ans rfl
      have l5 : g + 2 < w5.heap.size := lt_of_heap HE5.out.ans
      clear hN hO HPU b1 d0 d1 lg
      go_wp2_with (at_builtin; refine wpList_append (xn + on2) (X.flatMap itc ++ O.flatMap itc) rfl _ _ _ _ rfl slIt rfl (HG.out.row.still HN.out.same).1 rfl (Rd.src HO.out.1 Tryd.underlying22) rfl rfl (by unfold maxLen; omega) (by omega) ?_)
      intro xa2 xc2 w6 hG
      have hST := HG.out.step HN.out hn2.1 HO.out.2 hG
      have x6 : w6.cell? ⟨g + 2, 0, none⟩ = some (.slice xa xn xc) := block_cell hST.1.ans rfl
      have f6 : w6.frozen? ⟨g + 2, 0, none⟩ = false := block_free hST.1.ans
      have l6 : g + 2 < w6.heap.size := lt_of_heap hST.1.ans
      have HS2 := Lib.hid hST.2
      have HTK : Hid (puts L (I.take (k + 1)) = put (puts L (I.take k)) y.1 y.2) := Lib.hid (by rw [take_snoc I k y HY.out, puts_snoc])
      clear hG hST x5 l5
      go_wp2_with fail
      go_roundw
      case rel => exact ⟨k + 1, la2, ln2, lc2, oa2, on2, oc2, xa2, xn + on2, xc2, X ++ O, rfl, rfl, by go_num, by omega, by omega, by omega, Lib.hid (by rw [HTK.out]; exact HS2.out)⟩
      case measure => simp [intOf]; omega
    · have hlt' : ¬ (k : Int) < (im : Int) := by omega
      obtain rfl : im = k := by omega
      have HP4 := Lib.hid HG.out.prp
      have HX4 : Hid (RS itc 2 wr xa xn xc X ∧ ∀ k, At xa k → g + 2 < k ∧ k < wr.heap.size) := Lib.hid ⟨HG.out.row.rs, fun k hk => ⟨(HG.out.xnew k hk).1, HG.out.row.1.lt k hk⟩⟩
      have HE4 : Hid (Lst wr la ln lc (puts L I) ∧ ∀ x, At la x → (At a x ∧ x < w.heap.size) ∨ g + 2 < x) := Lib.hid ⟨by have := HG.out.lst; rwa [List.take_of_length_le (by rw [HI.out.2]; exact Nat.le_refl _)] at this, HG.out.new⟩
      have b0 : wr.cell? ⟨g, 0, none⟩ = some (.int .i64 1) := block_cell HP4.out.box rfl
      have lg2 : g + 2 < wr.heap.size := lt_of_heap HP4.out.ans
      have e0 : wr.cell? ⟨g + 2, 0, none⟩ = some (.slice xa xn xc) := block_cell HP4.out.ans rfl
      have e1 : wr.cell? ⟨g + 2, 1, none⟩ = some (.int .u64 (0 : Int)) := block_cell HP4.out.ans rfl
      have e2 : wr.cell? ⟨g + 2, 2, none⟩ = some (.bool false) := block_cell HP4.out.ans rfl
      have f2 : ∀ i, wr.frozen? ⟨g + 2, i, none⟩ = false := fun i => block_free HP4.out.ans
      have r0 : wr.cell? ⟨g + 1, 0, none⟩ = some (.slice none 0 0) := block_cell HP4.out.res rfl
      have r1 : wr.cell? ⟨g + 1, 1, none⟩ = some (.int .u64 0) := block_cell HP4.out.res rfl
      have r2 : wr.cell? ⟨g + 1, 2, none⟩ = some (.bool false) := block_cell HP4.out.res rfl
      have f1 : ∀ i, wr.frozen? ⟨g + 1, i, none⟩ = false := fun i => block_free HP4.out.res
      have lg1 : g + 1 < wr.heap.size := lt_of_heap HP4.out.res
      clear HG hxk hbx hln2 hlk
      go_upto_region 28 with fail
      obtain ⟨w8, hw8⟩ : ∃ w8, wr = w8 := ⟨_, rfl⟩
      have HP8 : Hid (Prp w w8 g 1 ia im ic (some ⟨b, off, none⟩) kc xa xn xc 0 false) := Lib.hid (by rw [← hw8]; exact HP4.out)
      have HO8 : Hid (Only (fun k => k = g + 1 ∨ k = g + 2) wr w8) := Lib.hid (by rw [← hw8]; exact Only.refl _ _)
      rw [hw8]
      clear hw8 b0 b1 lg e0 e1 e2 f2 r0 r1 r2 f1 lg1 lg2
      have e0 : w8.cell? ⟨g + 2, 0, none⟩ = some (.slice xa xn xc) := block_cell HP8.out.ans rfl
      have e1 : w8.cell? ⟨g + 2, 1, none⟩ = some (.int .u64 (0 : Int)) := block_cell HP8.out.ans rfl
      have e2 : w8.cell? ⟨g + 2, 2, none⟩ = some (.bool false) := block_cell HP8.out.ans rfl
      have f2 : ∀ i, w8.frozen? ⟨g + 2, i, none⟩ = false := fun i => block_free HP8.out.ans
      have r0 : w8.cell? ⟨g + 1, 0, none⟩ = some (.slice none 0 0) := block_cell HP8.out.res rfl
      have r1 : w8.cell? ⟨g + 1, 1, none⟩ = some (.int .u64 0) := block_cell HP8.out.res rfl
      have r2 : w8.cell? ⟨g + 1, 2, none⟩ = some (.bool false) := block_cell HP8.out.res rfl
      have f1 : ∀ i, w8.frozen? ⟨g + 1, i, none⟩ = false := fun i => block_free HP8.out.res
      have lg1 : g + 1 < w8.heap.size := lt_of_heap HP8.out.res
      have lg2 : g + 2 < w8.heap.size := lt_of_heap HP8.out.ans
      go_region
      obtain ⟨w9, hw9⟩ : ∃ w9, (((w8.setCell ⟨g + 1, 0, none⟩ (.slice xa xn xc)).setCell ⟨g + 1, 1, none⟩ (.int .u64 (0 : Int))).setCell ⟨g + 1, 2, none⟩ (.bool false)).drew = w9 := ⟨_, rfl⟩
      have HF := Lib.hid (HP8.out.fin w9 hw9.symm)
      rw [hw9]
      obtain ⟨y0, y1, y2⟩ := HF.out.1
      clear hw9 e0 e1 e2 f2 r0 r1 r2 f1 lg1 lg2
      go_wp2_with fail
      refine bodyPost_ret (v := .tuple #[.slice la ln lc, .agg #[.slice xa xn xc, .int .u64 (0 : Int), .bool false]]) ?_ rfl ?_
      · simp [results, Tryd.results18, go_sem, y0, y1, y2]
      exact ⟨la, ln, lc, ⟨xa, xn, xc, X, 0, false⟩, rfl, by simp only [nxt]; exact (HE4.out.1.keep (HO8.out.trans HF.out.2.2 (fun k _ e => .inl e)) (fun k hk e => by have hg := HP8.out.new; have e' : k = g + 1 ∨ k = g + 2 := e; rcases HE4.out.2 k hk with h | h <;> omega)), fun k hk => (HE4.out.2 k hk).imp (fun h => h.1) (fun h => by have := HP8.out.new; omega), (HX4.out.1.keep HO8.out (fun k hk e => by have := (HX4.out.2 k hk).1; have e' : k = g + 1 ∨ k = g + 2 := e; omega)).keep HF.out.2.2 (fun k hk e => by have := (HX4.out.2 k hk).1; have e' : k = g + 1 := e; omega), fun h => absurd (h rfl) (by decide), fun k hk => ⟨by have := (HX4.out.2 k hk).1; have := HP8.out.new; omega, Nat.lt_of_lt_of_le (HX4.out.2 k hk).2 (HO8.out.trans HF.out.2.2 (fun k _ e => .inl e)).size⟩, HF.out.2.1⟩
end Go.Proofs.YtcjifjfcjimefaaDoor.xf

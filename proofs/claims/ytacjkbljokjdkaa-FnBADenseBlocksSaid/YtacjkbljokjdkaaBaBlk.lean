/-
  arrays.step: the blocks of a dense array.
-/
import Derived.Test.YtacjkbljokjdkaaBaIterD
import Derived.Deep.LoopGhost
namespace Go.Proofs.Ytacjkbljokjdkaa.ba
open Go.RowKit Go.Proofs.Ytacjkbljokjdkaa.base Go.Proofs.Ytacjkbljokjdkaa.heap Go.Proofs.Ytacjkbljokjdkaa.rows Go.Proofs.Ytacjkbljokjdkaa.bit Go.Proofs.Ytacjkbljokjdkaa.bs
set_option linter.unusedVariables false
/-- d blocks from j0 on: place, word, place, word, .. -/
def BL (ws : List Nat) (j0 : Nat) : Nat → List Nat
  | 0 => []
  | d + 1 => BL ws j0 d ++ [j0 + d, wf ws (j0 + d)]
theorem BL_len (ws : List Nat) (j0 : Nat) : ∀ d, (BL ws j0 d).length = 2 * d
  | 0 => rfl
  | d + 1 => by show (BL ws j0 d ++ _).length = _; rw [List.length_append, BL_len ws j0 d]; simp; omega
/-- how the answer stands behind d blocks -/
structure BkI (w wr : World) (r g p j0 t : Nat) (ws : List Nat) (d : Nat) (an : Option Addr) (cn : Nat) : Prop where
  obj : wr.heap[r]? = some (.cells #[.bool false, .int .u64 0, .slice an (2 * d) cn, .bool false] 46 (0, 0))
  own : Own 24 1 wr an (2 * d) cn (U (BL ws j0 d))
  it : wr.heap[g]? = some (dObj (((j0 + d : Nat) : Int) - 1) t p)
  ng : g ≠ r
  hg : w.heap.size ≤ g
  hr : w.heap.size ≤ r
  ar : ¬ At an r
  ag : ¬ At an g
  new : ∀ k, At an k → w.heap.size ≤ k
  only : Same w wr
section
variable {w : World} {q c : Nat} {a : Option Addr} {l : List It}
set_option maxRecDepth 100000 in
set_option maxHeartbeats 3200000 in
theorem stepBlocks (h : Sta w q a c l) (i p : Nat) (d : BA) (F : Nat → Prop) (hx : l[i]? = some ⟨.iface 85 (.pointer (some ⟨p, 0, none⟩)), d, F⟩)
    {ab : Option Addr} {cb lo hi : Nat} {ws : List Nat} {any : Bool} (hdn : Dn w p ab cb ws lo hi any) (hlh : lo ≤ hi) (hlt : hi / 64 < ws.length) :
    Calls Try.prog 24 #[.pointer (some ⟨q, 0, none⟩), stv { op := 17, on := i }] w (NumsA (BL ws (lo / 64) (hi / 64 + 1 - lo / 64)) w) := by
  have HAT : Hid (∀ wx, Same w wx → Calls Try.prog 29 #[.pointer (some ⟨q, 0, none⟩), .int .i64 (i : Int)] wx (FV wx (.iface 85 (.pointer (some ⟨p, 0, none⟩))))) := Lib.hid (fun wx hS => atA (h.still hS) i _ hx)
  have HDN := Lib.hid hdn
  have hws := hdn.sm
  have hj0 : lo / 64 ≤ hi / 64 := Nat.div_le_div_right hlh
  have HB : Hid (∀ wx, Same w wx → Calls Try.prog 51 #[.pointer (some ⟨p, 0, none⟩)] wx fun e w' => e = .returned (.iface 118 (.pointer (some ⟨wx.heap.size, 0, none⟩))) ∧ w' = wx.alloc (dObj (((lo / 64 : Nat) : Int) - 1) (hi / 64) p)) := Lib.hid (fun wx hS => blocksD (hdn.still hS) hlh (by omega))
  have hmth : ∀ wx, (method 255 85 (.pointer (some ⟨p, 0, none⟩)) "Blocks").run Try.prog wx = .ok (51, .pointer (some ⟨p, 0, none⟩)) wx := by intro wx; kernel_rfl
  generalize lo / 64 = j0 at *
  generalize hi / 64 = t at *
  have HP : Hid (∀ e w', (∃ d an cn, j0 + d = t + 1 ∧ e = Ending.returned (.agg #[.bool false, .int .u64 0, .slice an (2 * d) cn, .bool false]) ∧ Own 24 1 w' an (2 * d) cn (U (BL ws j0 d)) ∧ Same w w' ∧ ∀ k, At an k → w.heap.size ≤ k) → NumsA (BL ws j0 (t + 1 - j0)) w e w') := Lib.hid (fun e w' ⟨d, an, cn, h1, h2, h3, h4, h5⟩ => by
    have e0 : t + 1 - j0 = d := by omega
    rw [e0]
    exact ⟨an, cn, by rw [BL_len]; exact h2, by rw [BL_len]; exact h3, h4, h5⟩)
  clear h hx hdn hlh
  unfold stv
  simp only
  go_enter_defers Try.func24, Try.ntmps24
  go_wp2_with (go_at_call 29; refine (HAT.out _ ((Only.refl _ _).alloc _ |>.alloc _)).mono ?_)
  rintro e w1 ⟨rfl, hS1⟩
  obtain ⟨m1, m2, m3⟩ := step_made (w := w) (.cells #[.int .i64 (17 : Int), .int .i64 (i : Int), .int .i64 0, .int .u64 0, .int .i64 0, .bool false] 27) (.cells #[.bool false, .int .u64 0, .slice none 0 0, .bool false] 46)
  have n1 := hS1.obj m2 id
  have n2 := hS1.obj m3 id
  have HS1 : Hid (Same w w1) := Lib.hid (Same.trans m1 hS1)
  obtain ⟨s, hs⟩ : ∃ s, w.heap.size = s := ⟨_, rfl⟩
  obtain ⟨r, hr⟩ : ∃ r, w.heap.size + 1 = r := ⟨_, rfl⟩
  have HR : Hid (w.heap.size ≤ r ∧ s ≠ r ∧ w.heap.size ≤ s) := Lib.hid (by omega)
  rw [hs] at n1
  rw [hr] at n2
  rw [hr, hs]
  have c0 : w1.cell? ⟨s, 0, none⟩ = some (.int .i64 17) := block_cell n1 rfl
  have N2 := Lib.hid n2
  clear m1 m2 m3 hS1 n1 n2 HAT
  go_wp2_with (go_at_call 51; refine (HB.out _ HS1.out).mono ?_)
  rintro e w3 ⟨rfl, hw3⟩
  obtain ⟨g, hg⟩ : ∃ g, w1.heap.size = g := ⟨_, rfl⟩
  rw [hg]
  have HG : Hid (BkI w w3 r g p j0 t ws 0 none 0) := Lib.hid (by
    have h1 := HS1.out.size
    have h2 := lt_of_heap N2.out
    rw [hw3]
    refine ⟨((Only.refl (fun _ => False) w1).alloc _).obj N2.out id, Own.nil _ _ _, ?_, by omega, by omega, HR.out.1, id, id, fun k hk => hk.elim, Same.trans HS1.out ((Only.refl _ _).alloc _)⟩
    rw [← hg]
    exact heap_alloc_new _ _)
  clear hw3 hg HB N2 HS1
  have hm3 : ∀ wx, (method 255 118 (.pointer (some ⟨g, 0, none⟩)) "Next").run Try.prog wx = .ok (124, .pointer (some ⟨g, 0, none⟩)) wx := by intro wx; kernel_rfl
  have hm4 : ∀ wx, (method 255 118 (.pointer (some ⟨g, 0, none⟩)) "Value").run Try.prog wx = .ok (125, .pointer (some ⟨g, 0, none⟩)) wx := by intro wx; kernel_rfl
  go_wp2_with fail
  go_loopg [9] (t + 1) (fun kx s9 wr => ∃ (d : Nat) (an : Option Addr) (cn : Nat), j0 + d ≤ t + 1 ∧ t + 1 - (j0 + d) ≤ kx ∧ Hid (BkI w wr r g p j0 t ws d an cn))
  case atStart => exact ⟨0, none, 0, by omega, by omega, HG⟩
  case round =>
    clear HG
    obtain ⟨d, an, cn, hd, hkx, HI⟩ := hrel
    obtain ⟨j, hj⟩ : ∃ j, j0 + d = j := ⟨_, rfl⟩
    rw [hj] at hd hkx
    have HJ := Lib.hid hj
    have HNX : Hid (∀ b, decide (j ≤ t) = b → Calls Try.prog 124 #[.pointer (some ⟨g, 0, none⟩)] wr fun e w' => e = .returned (.bool b) ∧ w'.heap[g]? = some (dObj j t p) ∧ Only (fun j => j = g) wr w') := Lib.hid (fun b hb => by
      rw [← hb]
      refine (nextD HI.out.it (j := j) (by have := HJ.out; omega) (by omega) (by omega)).mono ?_
      rintro e w' ⟨h1, h2, h3⟩
      exact ⟨h1, h2, h3⟩)
    by_cases hjt : j ≤ t
    · have HN1 := Lib.hid (HNX.out true (by simp [hjt]))
      clear HNX hj
      go_wp2_with (go_at_call 124; refine HN1.out.mono ?_)
      rintro e w4 ⟨rfl, ha4, ho4⟩
      have HSM : Same w w4 := new_only HI.out.only ho4 (fun k e => by have := HI.out.hg; omega)
      have HI4 : Hid (w4.heap[g]? = some (dObj j t p) ∧ w4.heap[r]? = some (.cells #[.bool false, .int .u64 0, .slice an (2 * d) cn, .bool false] 46 (0, 0)) ∧ Own 24 1 w4 an (2 * d) cn (U (BL ws j0 d)) ∧ Same w w4) := Lib.hid ⟨ha4, ho4.obj HI.out.obj (fun e => HI.out.ng e.symm), HI.out.own.keep ho4 (fun k hk e => HI.out.ag (by rw [← e]; exact hk)), HSM⟩
      clear HN1 ha4 ho4 HSM
      obtain ⟨y, hy⟩ : ∃ y, wf ws j = y := ⟨_, rfl⟩
      have HV := Lib.hid (valueD HI4.out.1 (HDN.out.still HI4.out.2.2.2) (by omega : j < ws.length))
      rw [show ws.getD j 0 = y from hy] at HV
      have HY := Lib.hid hy
      clear hy
      go_wp2_with (go_at_call 125; refine HV.out.mono ?_)
      rintro e w5 ⟨rfl, hS5⟩
      have HI5 : Hid (w5.heap[g]? = some (dObj j t p) ∧ w5.heap[r]? = some (.cells #[.bool false, .int .u64 0, .slice an (2 * d) cn, .bool false] 46 (0, 0)) ∧ Own 24 1 w5 an (2 * d) cn (U (BL ws j0 d)) ∧ Same w w5) := Lib.hid ⟨hS5.obj HI4.out.1 id, hS5.obj HI4.out.2.1 id, HI4.out.2.2.1.keep hS5 (fun _ _ => id), Same.trans HI4.out.2.2.2 hS5⟩
      clear HV hS5 HI4
      have d2 : w5.cell? ⟨r, 2, none⟩ = some (.slice an (2 * d) cn) := block_cell HI5.out.2.1 rfl
      have hd2 : 2 * d ≤ 3000000 := by have := HJ.out; omega
      have bb := HI5.out.2.2.1.bound
      obtain ⟨e2, he2⟩ : ∃ e, 2 * d = e := ⟨_, rfl⟩
      have HE := Lib.hid he2
      rw [he2] at d2 hd2 bb
      have HO : Hid (Own 24 1 w5 an e2 cn (U (BL ws j0 d))) := Lib.hid (by rw [← he2]; exact HI5.out.2.2.1)
      clear he2
      go_wp2_with (at_builtin; refine wpList_append (e2 + 2) (U (BL ws j0 d) ++ U [j, y]) rfl _ _ _ _ rfl slWord rfl (HO.out.keep (S := fun _ => False) (by repeat (first | exact Only.refl _ _ | apply Only.alloc | apply Only.drew)) (fun _ _ => id)) rfl (Src.row (size := 1) (cs := #[.int .u64 (j : Int), .int .u64 (y : Int)]) (t := 24) (fr := (0, 0)) Try.underlying23 (by exact heap_alloc_new _ _) 2 2 rfl (by intro u hu; simp at hu; rcases hu with rfl | rfl <;> rfl)) rfl rfl (by unfold maxLen; omega) (by omega) ?_)
      intro a2 cc2 w6 hG
      have N6 : Hid (w6.heap[r]? = some (.cells #[.bool false, .int .u64 0, .slice an (2 * d) cn, .bool false] 46 (0, 0))) := Lib.hid (hG.only.obj (((Only.refl (fun _ => False) w5).alloc _).obj HI5.out.2.1 id) (fun hk => HI.out.ar hk))
      have f2 : w6.frozen? ⟨r, 2, none⟩ = false := block_free N6.out
      have d6 : w6.cell? ⟨r, 2, none⟩ = some (.slice an (2 * d) cn) := block_cell N6.out rfl
      have HN : Hid (BkI w (w6.setCell ⟨r, 2, none⟩ (.slice a2 (e2 + 2) cc2)) r g p j0 t ws (d + 1) a2 cc2) := Lib.hid (by
        have hrl := lt_of_heap HI5.out.2.1
        have hgl := lt_of_heap HI5.out.1
        have hfr : ∀ k, At a2 k → At an k ∨ w5.heap.size ≤ k := fun k hk => (hG.fresh k hk).imp_right (fun h => by simp at h; omega)
        have hS6 : Same w w6 := new_only (Same.trans HI5.out.2.2.2 ((Only.refl _ _).alloc _)) hG.only (fun k hk => HI.out.new k hk)
        have e1 : U (BL ws j0 d) ++ U [j, y] = U (BL ws j0 (d + 1)) := by
          show _ = U (BL ws j0 d ++ [j0 + d, wf ws (j0 + d)])
          rw [HJ.out, HY.out]; simp [U]
        have e2' : 2 * (d + 1) = e2 + 2 := by have := HE.out; omega
        have har : ¬ At a2 r := fun hk => (hfr r hk).elim HI.out.ar (fun h => by omega)
        have hag : ¬ At a2 g := fun hk => (hfr g hk).elim HI.out.ag (fun h => by omega)
        have hoR : Only (fun k => k = r) w6 (w6.setCell ⟨r, 2, none⟩ (.slice a2 (e2 + 2) cc2)) := (Only.refl _ _).setCell _ _ (fun _ => rfl)
        refine ⟨?_, ?_, ?_, HI.out.ng, HI.out.hg, HI.out.hr, har, hag, fun k hk => (hfr k hk).elim (HI.out.new k) (fun h => by have := HI5.out.2.2.2.size; omega), hS6.setCell _ _ (fun h => absurd HI.out.hr (by simp at h; omega))⟩
        · rw [e2']
          exact setCell_heap N6.out 2 _
        · rw [← e1, e2']
          exact hG.own.keep hoR (fun k hk e => har (by rw [← e]; exact hk))
        · rw [show ((j0 + (d + 1) : Nat) : Int) - 1 = (j : Int) by have := HJ.out; omega]
          exact hoR.obj (hG.only.obj (((Only.refl (fun _ => False) w5).alloc _).obj HI5.out.1 id) (fun hk => HI.out.ag hk)) HI.out.ng)
      clear hG HI5 HO HI HY
      go_wp2_with fail
      go_roundg (t + 1 - (j + 1))
      case measure => omega
      case rel => exact ⟨d + 1, a2, cc2, by have := HJ.out; omega, by have := HJ.out; omega, HN⟩
    · have HN1 := Lib.hid (HNX.out false (by simp [hjt]))
      clear HNX hj
      go_wp2_with (go_at_call 124; refine HN1.out.mono ?_)
      rintro e w4 ⟨rfl, ha4, ho4⟩
      have N3 : Hid (w4.heap[r]? = _) := Lib.hid (ho4.obj HI.out.obj (fun e => HI.out.ng e.symm))
      have f1 : ∀ j, w4.frozen? ⟨r, j, none⟩ = false := fun j => block_free N3.out
      have d0 : w4.cell? ⟨r, 0, none⟩ = some (.bool false) := block_cell N3.out rfl
      have d1 : w4.cell? ⟨r, 1, none⟩ = some (.int .u64 0) := block_cell N3.out rfl
      have d2 : w4.cell? ⟨r, 2, none⟩ = some (.slice an (2 * d) cn) := block_cell N3.out rfl
      have d3 : w4.cell? ⟨r, 3, none⟩ = some (.bool false) := block_cell N3.out rfl
      have HOW : Hid (Own 24 1 w4 an (2 * d) cn (U (BL ws j0 d)) ∧ Same w w4) := Lib.hid ⟨HI.out.own.keep ho4 (fun k hk e => HI.out.ag (by rw [← e]; exact hk)), new_only HI.out.only ho4 (fun k e => by have := HI.out.hg; omega)⟩
      have HDF : Hid (j0 + d = t + 1) := Lib.hid (by have := HJ.out; omega)
      clear ha4 ho4
      go_wp2_with fail
      refine step_end rfl (stored4 N3.out _ _ _ _) (HP.out _ _ ⟨d, an, cn, HDF.out, rfl, ?_, same4 HOW.out.2 HI.out.hr _ _ _ _, HI.out.new⟩)
      refine HOW.out.1.keep (S := fun k => k = r) ?_ (fun k hk e => HI.out.ar (by rw [← e]; exact hk))
      repeat (first | exact Only.refl _ _ | refine Only.setCell ?_ _ _ (fun _ => rfl))
end
end Go.Proofs.Ytacjkbljokjdkaa.ba

/-
  The reference's functions on truth values: BSMake; bsBits of the statements; BSOf, BSLast.
-/
import Derived.Test.YtgndpckcdageiaaBsSpecB
namespace Go.Proofs.Ytgndpckcdageiaa.bs
open Go.RowKit Go.Proofs.Ytgndpckcdageiaa.base Go.Proofs.Ytgndpckcdageiaa.heap Go.Proofs.Ytgndpckcdageiaa.bit
set_option linter.unusedVariables false

set_option maxHeartbeats 1600000 in
/-- BSMake: Bits of truth values -/
theorem bsMake (a0 : Option Addr) (cap0 : Nat) (b : List Bool) (w : World) (hrb : RB w a0 b.length cap0 b) (hn : b.length ≤ 1048576) :
    Calls Try.prog 9 #[.slice a0 b.length cap0] w (RetBits b w) := by
  have hbd := hrb.1.bound
  have HRB := Lib.hid hrb
  clear hrb
  go_enter Try.func9, Try.ntmps9
  go_wp2_with fail
  have hM0 : Making w (w.heap.size + 1) b.length 0 b ((w.alloc (Obj.cells #[Value.int IntKind.u64 0, Value.slice none 0 0] 25)).alloc (Obj.cells #[Value.int IntKind.u64 (b.length : Int), Value.slice none 0 0] 25)) :=
    ⟨((Only.refl _ w).alloc _).alloc _, none, 0, heap_alloc_new' _ _ _ (by simp), Own.nil _ _ _, fun j hj => hj.elim⟩
  have hres : ((w.alloc (Obj.cells #[Value.int IntKind.u64 0, Value.slice none 0 0] 25)).alloc (Obj.cells #[Value.int IntKind.u64 (b.length : Int), Value.slice none 0 0] 25)).heap[w.heap.size]? = some (Obj.cells #[Value.int IntKind.u64 0, Value.slice none 0 0] 25 (0, 0)) := by
    rw [Below.heap_alloc _ _ _ (by simp)]; exact heap_alloc_new' _ _ _ rfl
  have HM0 := Lib.hid hM0
  have HRES := Lib.hid hres
  clear hM0 hres
  go_loopw [4] (fun i wr => ∃ k : Nat, k ≤ b.length ∧ i = .int .i64 (k : Int) ∧ Making w (w.heap.size + 1) b.length k b wr ∧ wr.heap[w.heap.size]? = some (Obj.cells #[Value.int IntKind.u64 0, Value.slice none 0 0] 25 (0, 0))) (fun i _ => b.length - (intOf i).toNat)
  case atStart => exact ⟨0, Nat.zero_le _, rfl, HM0.out, HRES.out⟩
  case round =>
    obtain ⟨k, hk, rfl, hM, hres⟩ := hrel
    clear HM0 HRES
    obtain ⟨hO, a, cap, hob, hown, hat⟩ := hM
    have c0 : wr.cell? ⟨w.heap.size + 1, 0, none⟩ = some (.int .u64 (b.length : Int)) := block_cell hob rfl
    have c1 : wr.cell? ⟨w.heap.size + 1, 1, none⟩ = some (.slice a (onesTo b k).length cap) := block_cell hob rfl
    have hle := onesTo_le b k
    have HO := Lib.hid hO
    have HOB := Lib.hid hob
    have HOWN := Lib.hid hown
    have HAT := Lib.hid hat
    have HRES := Lib.hid hres
    clear hO hob hown hat hres
    by_cases hlt : k < b.length
    · have hlt' : (k : Int) < (b.length : Int) := by omega
      obtain ⟨x, off, rfl, hx, hc⟩ := HRB.out.at (by omega)
      have cb : wr.cell? ⟨x, off + k, none⟩ = some (.bool (b.getD k false)) := (HO.out.cell (p := ⟨x, off + k, none⟩) hx id).trans (hc k hlt)
      clear hc
      cases hg : b.getD k false
      · have HG : Hid (onesTo b (k + 1) = onesTo b k) := Lib.hid (onesTo_no b k hg)
        rw [hg] at cb
        clear hg
        go_wp2_with fail
        go_roundw
        case rel => exact ⟨k + 1, by omega, by go_num, ⟨HO.out, a, cap, by rw [HG.out]; exact HOB.out, by rw [HG.out]; exact HOWN.out, HAT.out⟩, HRES.out⟩
        case measure => simp [intOf]; omega
      · have HG : Hid (onesTo b (k + 1) = onesTo b k ++ [k]) := Lib.hid (onesTo_yes b k hg)
        rw [hg] at cb
        clear hg
        go_wp2_with (at_builtin; refine wpList_append ((onesTo b k).length + 1) (U (onesTo b k) ++ [.int .u64 (k : Int)]) rfl _ _ _ _ rfl slUint rfl (HOWN.out.keep (S := fun _ => False) (by repeat (first | exact Only.refl _ _ | apply Only.alloc | apply Only.drewN)) (fun _ _ => id)) rfl (Src.row (cs := #[.int .u64 (k : Int)]) (t := 22) (fr := (0, 0)) Try.underlying23 (heap_alloc_new' _ _ _ (by simp)) 1 1 rfl (by simp [Value.oneCell'])) rfl rfl (by unfold maxLen; omega) (by omega) ?_)
        intro a' cap' w2 hG
        have HG2 := Lib.hid hG
        clear hG
        have hO2 : Only (At a) wr w2 := ((Only.refl (At a) wr).alloc _).trans HG2.out.only (fun _ _ h => h)
        have hob2 : w2.heap[w.heap.size + 1]? = some (.cells #[.int .u64 (b.length : Int), .slice a (onesTo b k).length cap] 25 (0, 0)) := hO2.obj HOB.out (fun h => by have := HAT.out _ h; omega)
        have c12 : w2.cell? ⟨w.heap.size + 1, 1, none⟩ = some (.slice a (onesTo b k).length cap) := block_cell hob2 rfl
        have f12 : w2.frozen? ⟨w.heap.size + 1, 1, none⟩ = false := block_free hob2
        have hO2' : Only (fun _ => False) w w2 := HO.out.trans hO2 (fun j hj h => by have := HAT.out j h; omega)
        have hres2 := hO2.obj HRES.out (fun h => by have := HAT.out _ h; omega)
        have hsz := lt_of_heap HOB.out
        have HRES2 := Lib.hid hres2
        clear hres2
        have HO2 := Lib.hid hO2
        have HOB2 := Lib.hid hob2
        have HO2' := Lib.hid hO2'
        clear hO2 hob2 hO2' c1
        go_wp2_with fail
        go_roundw
        case rel =>
          refine ⟨k + 1, by omega, by go_num, ⟨HO2'.out.setCell _ _ (fun h => absurd h (by simp)), a', cap', ?_, ?_, fun j hj => ?_⟩, ?_⟩
          · rw [setCell_heap HOB2.out 1 _, HG.out, List.length_append]; rfl
          · rw [HG.out, List.length_append, ← U_app]
            exact HG2.out.own.keep (S := fun j => j = w.heap.size + 1) ((Only.refl _ _).setCell _ _ (fun _ => rfl)) (fun j hj e => by
              rcases HG2.out.fresh j hj with h | h
              · have := HAT.out j h; omega
              · simp at h; omega)
          · rcases HG2.out.fresh j hj with h | h
            · exact HAT.out j h
            · simp at h; omega
          · rw [Below.heap_setCell _ _ _ _ (by simp)]; exact HRES2.out
        case measure => simp [intOf]; omega
    · obtain rfl : k = b.length := by omega
      have r0 : wr.cell? ⟨w.heap.size, 0, none⟩ = some (.int .u64 0) := block_cell HRES.out rfl
      have r1 : wr.cell? ⟨w.heap.size, 1, none⟩ = some (.slice none 0 0) := block_cell HRES.out rfl
      have rf0 : wr.frozen? ⟨w.heap.size, 0, none⟩ = false := block_free HRES.out
      have rf1 : wr.frozen? ⟨w.heap.size, 1, none⟩ = false := block_free HRES.out
      go_wp2_with fail
      refine bodyPost_ret (v := .agg #[.int .u64 (b.length : Int), .slice a (onesTo b b.length).length cap]) ?_ rfl ⟨a, _, cap, rfl, ⟨?_, rfl⟩, ?_, fun j hj => ⟨by have := HAT.out j hj; omega, by have := HOWN.out.lt j hj; simpa using this⟩⟩
      · simp [results, Try.results9, go_sem, r0, r1]
      · exact (HOWN.out.keep (S := fun j => j = w.heap.size) (((Only.refl (fun j => j = w.heap.size) _).setCell _ _ (fun _ => rfl)).setCell _ _ (fun _ => rfl)) (fun j hj e => by have := HAT.out j hj; omega)).rd
      · exact (HO.out.setCell _ _ (fun h => absurd h (by simp))).setCell _ _ (fun h => absurd h (by simp))

/-- Bits of at most so many bits are returned -/
def SomeBits (most : Nat) (w : World) (e : Ending) (w' : World) : Prop := ∃ b : List Bool, b.length ≤ most ∧ RetBits b w e w'

set_option maxRecDepth 100000 in
set_option maxHeartbeats 1600000 in
/-- bsBits: Bits that are looked at -/
theorem bsBits (n : Nat) (a : Option Addr) (m cap : Nat) (zs : List Int) (w : World) (hr : IsRow .u64 w a m cap zs) (hm : m ≤ 2147483647) :
    Calls Try.prog 5 #[.agg #[.int .u64 (n : Int), .slice a m cap]] w (fun e w' => ∃ b : List Bool, b.length = n % 401 ∧ RetBits b w e w') := by
  have hmk : ∀ w : World, (Instr.makeSlice 29 (.int .u64 ((n : Int) % 401)) (.int .u64 ((n : Int) % 401))).run Try.prog w =
    .ok (.slice (some ⟨w.heap.size, 0, none⟩) (n % 401) (n % 401)) (w.alloc (.cells (madeCells #[.bool false] (n % 401)) 4)) := fun w => by
      have h := make_bools .u64 (n % 401) (by omega) w
      rw [Int.natCast_emod] at h
      exact h
  have hk4 : n % 401 ≤ 400 := by omega
  have hle := hr.le
  have hwf : ∀ i, 0 ≤ zs.getD i 0 ∧ zs.getD i 0 < 18446744073709551616 := fun i => wf_u64 (hr.wf (by decide) i)
  have HWF := Lib.hid hwf
  have HR := Lib.hid hr
  clear hwf hr
  generalize n % 401 = N at *
  go_enter Try.func5, Try.ntmps5
  go_wp2_with fail
  obtain ⟨w1, hw1⟩ : ∃ w1, w1 = ((w.alloc (.cells #[.int .u64 (n : Int), .slice a m cap] 25)).alloc (.cells #[.int .u64 0, .slice none 0 0] 25)).alloc (.cells (madeCells #[.bool false] N) 4) := ⟨_, rfl⟩
  have hO1 : Only (fun _ => False) w w1 := by rw [hw1]; exact (((Only.refl _ w).alloc _).alloc _).alloc _
  have hbox : w1.heap[w.heap.size]? = some (.cells #[.int .u64 (n : Int), .slice a m cap] 25 (0, 0)) := by
    rw [hw1, Below.heap_alloc _ _ _ (by simp; omega), Below.heap_alloc _ _ _ (by simp)]; exact heap_alloc_new' _ _ _ rfl
  have hres : w1.heap[w.heap.size + 1]? = some (.cells #[.int .u64 0, .slice none 0 0] 25 (0, 0)) := by
    rw [hw1, Below.heap_alloc _ _ _ (by simp)]; exact heap_alloc_new' _ _ _ (by simp)
  have hrow : w1.heap[w.heap.size + 1 + 1]? = some (.cells (madeCells #[.bool false] N) 4 (0, 0)) := by
    rw [hw1]; exact heap_alloc_new' _ _ _ (by simp)
  have hown : Own 4 1 w1 (some ⟨w.heap.size + 1 + 1, 0, none⟩) N N (B (List.replicate N false)) := by
    have h1 := Own.of_block hrow (size := 1) N N (Nat.le_refl _) (by unfold maxLen; omega) (by rw [bools_size]; omega) (by rw [bools_list]; exact fun u hu => B_one _ u (List.mem_of_mem_take hu))
    rw [bools_list, B_take] at h1
    rwa [show (List.replicate N false).take (N * 1) = List.replicate N false from List.take_of_length_le (by simp)] at h1
  rw [← hw1]
  have HO1 := Lib.hid hO1
  have HBOX := Lib.hid hbox
  have HRES := Lib.hid hres
  have HOWN := Lib.hid hown
  have hsz : w.heap.size + 1 + 1 < w1.heap.size := lt_of_heap hrow
  clear hmk hw1 hO1 hbox hres hrow hown
  go_loopw [4] (fun i wr => ∃ k : Nat, k ≤ m ∧ i = .int .i64 (k : Int) ∧ Only (fun j => j = w.heap.size + 1 + 1) w1 wr ∧ ∃ b' : List Bool, b'.length = N ∧ Own 4 1 wr (some ⟨w.heap.size + 1 + 1, 0, none⟩) N N (B b')) (fun i _ => m - (intOf i).toNat)
  case atStart => exact ⟨0, Nat.zero_le _, rfl, Only.refl _ _, _, by simp, HOWN.out⟩
  case round =>
    obtain ⟨k, hk, rfl, hO, b', hb', hown⟩ := hrel
    have hbox := hO.obj HBOX.out (by omega)
    have c1 : wr.cell? ⟨w.heap.size, 1, none⟩ = some (.slice a m cap) := block_cell hbox rfl
    have HB' := Lib.hid hb'
    have HO := Lib.hid hO
    have HOW := Lib.hid hown
    clear hO hown hbox HOWN hb'
    by_cases hall : k < m ∧ k < 1000 ∧ 0 < N
    · obtain ⟨hlt, h1000, hN⟩ := hall
      have hlt' : (k : Int) < (m : Int) := by omega
      obtain ⟨x, off, rfl, hzl, hx, hc⟩ := HR.out.cells (by omega)
      have ck : wr.cell? ⟨x, off + k, none⟩ = some (.int .u64 (zs.getD k 0)) := (HO.out.cell (p := ⟨x, off + k, none⟩) (by show x < _; omega) (by show ¬ x = _; omega)).trans ((HO1.out.cell (p := ⟨x, off + k, none⟩) hx id).trans (hc k (by omega)))
      have hy := (HWF.out k).1
      clear hc
      generalize zs.getD k 0 = y at *
      have i1 : 0 ≤ y % (N : Int) := Int.emod_nonneg _ (by omega)
      have i2 : y % (N : Int) < (N : Int) := Int.emod_lt_of_pos _ (by omega)
      obtain ⟨z, hz⟩ : ∃ z : Nat, y % (N : Int) = (z : Int) := ⟨(y % (N : Int)).toNat, by omega⟩
      have hzN : z < N := by omega
      have i3 : (y % (N : Int)).toNat = z := by omega
      obtain ⟨bb, hbb, hbl, hbc⟩ := HOW.out.at (by omega)
      cases hbb
      have cs : wr.cell? ⟨w.heap.size + 1 + 1, z, none⟩ = some (.bool (b'.getD z false)) := by
        have := hbc z _ (B_get _ z (by rw [HB'.out]; exact hzN))
        simpa using this
      have fs := HOW.out.frozen rfl z
      clear hbc hz
      go_wp2_with fail
      go_roundw
      case rel => exact ⟨k + 1, by omega, by go_num, HO.out.setCell _ _ (fun _ => rfl), b'.set z true, by simp [HB'.out], by rw [← B_set]; exact HOW.out.set rfl z (.bool true) rfl (by omega)⟩
      case measure => simp [intOf]; omega
    · have hRB : RB wr (some ⟨w.heap.size + 1 + 1, 0, none⟩) b'.length N b' := ⟨by rw [HB'.out]; exact HOW.out.rd, rfl⟩
      have hres := HO.out.obj HRES.out (by omega)
      have HMK : Hid (Calls Try.prog 9 #[.slice (some ⟨w.heap.size + 1 + 1, 0, none⟩) N N] wr (RetBits b' wr)) := Lib.hid (by
        have := bsMake _ _ b' wr hRB (by rw [HB'.out]; omega)
        rwa [HB'.out] at this)
      have HRES2 := Lib.hid hres
      have HOF : Hid (Only (fun _ => False) w wr) := Lib.hid (HO1.out.trans HO.out (fun j hj e => by omega))
      clear hRB hres
      have hE : Hid (∀ w2 a2 m2 cap2, Only (fun _ => False) wr w2 → RU w2 a2 m2 cap2 (ones b') → (∀ j, At a2 j → wr.heap.size ≤ j ∧ j < w2.heap.size) → w2.heap[w.heap.size + 1]? = some (.cells #[.int .u64 0, .slice none 0 0] 25 (0, 0)) ∧
          ∃ b : List Bool, b.length = N ∧ RetBits b w (.returned (.agg #[.int .u64 (b'.length : Int), .slice a2 m2 cap2])) ((w2.setCell ⟨w.heap.size + 1, 0, none⟩ (.int .u64 (b'.length : Int))).setCell ⟨w.heap.size + 1, 1, none⟩ (.slice a2 m2 cap2))) := Lib.hid (fun w2 a2 m2 cap2 hO2 hru hfr => by
        have hlt2 := lt_of_heap HRES2.out
        refine ⟨hO2.obj HRES2.out id, b', HB'.out, a2, m2, cap2, rfl, ?_, ?_, fun j hj => ⟨by have := hfr j hj; omega, by simpa using (hfr j hj).2⟩⟩
        · refine RU.keep (S := fun j => j = w.heap.size + 1) hru (((Only.refl (fun j => j = w.heap.size + 1) _).setCell _ _ (fun _ => rfl)).setCell _ _ (fun _ => rfl)) (fun j hj e => by have := hfr j hj; omega)
        · exact (((HOF.out.trans hO2 (fun _ _ f => f)).setCell _ _ (fun h => absurd h (by simp))).setCell _ _ (fun h => absurd h (by simp))))
      clear hk4
      have hcase : ((k : Int) < (m : Int) ∧ (k : Int) < 1000 ∧ ¬ (0 : Int) < (N : Int)) ∨ ((k : Int) < (m : Int) ∧ ¬ (k : Int) < 1000) ∨ ¬ (k : Int) < (m : Int) := by omega
      clear hall
      rcases hcase with ⟨h1, h2, h3⟩ | ⟨h1, h2⟩ | h1
      all_goals
        go_wp2_with fail
        refine HMK.out.mono ?_
        rintro e w2 ⟨a2, m2, cap2, rfl, hru, hO2, hfr⟩
        obtain ⟨hr2, hpost⟩ := hE.out w2 a2 m2 cap2 hO2 hru hfr
        have r0 : w2.cell? ⟨w.heap.size + 1, 0, none⟩ = some (.int .u64 0) := block_cell hr2 rfl
        have r1 : w2.cell? ⟨w.heap.size + 1, 1, none⟩ = some (.slice none 0 0) := block_cell hr2 rfl
        have rf0 : w2.frozen? ⟨w.heap.size + 1, 0, none⟩ = false := block_free hr2
        have rf1 : w2.frozen? ⟨w.heap.size + 1, 1, none⟩ = false := block_free hr2
        have HP := Lib.hid hpost
        clear hr2 hru hO2 hpost hfr
        go_wp2_with fail
        refine bodyPost_ret (v := .agg #[.int .u64 (b'.length : Int), .slice a2 m2 cap2]) ?_ rfl HP.out
        simp [results, Try.results5, go_sem, r0, r1]
end Go.Proofs.Ytgndpckcdageiaa.bs

/-
  blSteps of the statements: at most 40 steps, their numbers from 1 to 5, at most 20 bytes each.
-/
import Derived.Test.YtpiajkabikbdnaaBlSt
namespace Go.Proofs.Ytpiajkabikbdnaa.bs
open Go.RowKit Go.Proofs.Ytpiajkabikbdnaa.base Go.Proofs.Ytpiajkabikbdnaa.heap Go.Proofs.Ytpiajkabikbdnaa.bit
set_option linter.unusedVariables false

theorem slSt : SliceOf Try.prog 50 57 2 32 := SliceOf.mk (z := .agg #[.int .i64 0, .slice none 0 0]) Try.underlying50 (by kernel_rfl) rfl

/-- a step as it is looked at -/
def St.few (s : St) : St := ⟨if 1 + s.op.tmod 5 < 1 then 1 else 1 + s.op.tmod 5, s.a, min s.n 20, s.cap, s.d.take 20⟩
theorem few_take (l : List St) (k : Nat) (s : St) (h : l[k]? = some s) : (l.map St.few).take (k + 1) = (l.map St.few).take k ++ [s.few] := by
  obtain ⟨hk, he⟩ := List.getElem?_eq_some_iff.1 h
  rw [List.take_succ_eq_append_getElem (by simpa using hk), List.getElem_map, he]
theorem tmod5 (x : Int) : -4 ≤ x.tmod 5 ∧ x.tmod 5 ≤ 4 := by
  have h1 := Int.tmod_lt_of_pos x (show (0 : Int) < 5 by omega)
  have h2 := Int.lt_tmod_of_pos x (show (0 : Int) < 5 by omega)
  omega

/-- steps that may be taken: numbers 1 to 5, data of at most 20 bytes that is read from the world w on -/
def Good (w : World) (s : St) : Prop := 1 ≤ s.op ∧ s.op ≤ 5 ∧ s.n ≤ 20 ∧ s.cap ≤ 9223372036854775807 ∧ s.n ≤ s.cap ∧ ∀ wx, Same w wx → RY wx s.a s.n s.cap s.d
theorem few_good {w : World} {s : St} (hb : s.n ≤ s.cap ∧ s.cap ≤ 9223372036854775807) (h : ∀ wx, Same w wx → RY wx s.a s.n s.cap s.d) : Good w s.few := by
  have ht := tmod5 s.op
  refine ⟨?_, ?_, Nat.min_le_right _ _, hb.2, Nat.le_trans (Nat.min_le_left _ _) hb.1, fun wx hx => ?_⟩
  · unfold St.few
    dsimp only
    split <;> omega
  · unfold St.few
    dsimp only
    split <;> omega
  · have := (h wx hx).first (min s.n 20) (Nat.min_le_left _ _)
    show RY wx s.a (min s.n 20) s.cap (s.d.take 20)
    by_cases h20 : s.n ≤ 20
    · rw [Nat.min_eq_left h20] at this ⊢
      rwa [List.take_of_length_le (by rw [(h wx hx).2]; exact Nat.le_refl _), ← List.take_of_length_le (l := s.d) (i := 20) (by rw [(h wx hx).2]; exact h20)] at this
    · rw [Nat.min_eq_right (by omega)] at this ⊢
      exact this

def FSteps (w : World) (l : List St) (e : Ending) (w' : World) : Prop := ∃ a n cap, e = .returned (.slice a n cap) ∧ RS w' a n cap ((l.map St.few).take 40) ∧ Same w w'

set_option maxRecDepth 100000 in
set_option maxHeartbeats 3200000 in
theorem blSteps (a : Option Addr) (n cap : Nat) (l : List St) (w : World) (h : RS w a n cap l) (hs : ∀ s ∈ l, s.n ≤ s.cap ∧ s.cap ≤ 9223372036854775807) (hn : n ≤ 2147483647) :
    Calls Try.prog 26 #[.slice a n cap] w (FSteps w l) := by
  have hbd := h.1.bound
  have HR : Hid (∀ wx, Same w wx → RS wx a n cap l) := Lib.hid (fun wx hx => h.keep hx (fun _ _ => id))
  have HS := Lib.hid hs
  have HL := Lib.hid h.2
  clear h hs
  obtain ⟨N, hN⟩ : ∃ N, min n 40 = N := ⟨_, rfl⟩
  have hN1 : N ≤ n := by omega
  have hN2 : N ≤ 40 := by omega
  have hN3 : N = n ∨ N = 40 := by omega
  have HT : Hid ((l.map St.few).take 40 = (l.map St.few).take N) := Lib.hid (by
    rcases hN3 with e | e
    · rw [List.take_of_length_le (show (l.map St.few).length ≤ N by rw [List.length_map, HL.out]; omega), List.take_of_length_le (show (l.map St.few).length ≤ 40 by rw [List.length_map, HL.out]; omega)]
    · rw [e])
  clear hN
  go_enter Try.func26, Try.ntmps26
  go_wp2_with fail
  go_loopw [3, 4, 5] (fun out i _ wr => ∃ (k : Nat) (oa : Option Addr) (oc : Nat), k ≤ N ∧ i = .int .i64 (k : Int) ∧ out = .slice oa k oc ∧ Own 57 2 wr oa k oc (stCells ((l.map St.few).take k)) ∧ Same w wr ∧ ∀ j, At oa j → w.heap.size ≤ j) (fun _ i _ _ => N - (intOf i).toNat)
  case atStart => exact ⟨0, none, 0, Nat.zero_le _, rfl, rfl, Own.nil _ _ _, Only.refl _ _, fun j hj => hj.elim⟩
  case round =>
    obtain ⟨k, oa, oc, hk, rfl, rfl, hown, hO, hfr⟩ := hrel
    have hbo := hown.bound
    have HOWN := Lib.hid hown
    have HO := Lib.hid hO
    have HFR := Lib.hid hfr
    clear hown hO hfr
    by_cases hlt : k < N
    · have hlt' : (k : Int) < (n : Int) := by omega
      have hlt2 : (k : Int) < 40 := by omega
      obtain ⟨b, off, rfl, hb, hc⟩ := (HR.out wr HO.out).at (by omega)
      obtain ⟨s, hsk⟩ : ∃ s, l[k]? = some s := ⟨l[k]'(by rw [HL.out]; omega), List.getElem?_eq_getElem _⟩
      obtain ⟨c0, c1⟩ := hc k s hsk
      have hsb := HS.out s (List.mem_of_getElem? hsk)
      have HF : Hid ((l.map St.few).take (k + 1) = (l.map St.few).take k ++ [s.few]) := Lib.hid (few_take l k s hsk)
      obtain ⟨hr1, hr2⟩ := tmod5 s.op
      obtain ⟨r, hr⟩ : ∃ r, s.op.tmod 5 = r := ⟨_, rfl⟩
      rw [hr] at hr1 hr2
      have hki : (0 : Int) ≤ (k : Int) := by omega
      have hw1 : IntKind.i64.wrap (1 + r) = 1 + r := by rw [IntKind.wrap_i64]; omega
      clear hc hsk hN3
      go_wp2_with fail
      go_region_held3 (fun w' => w'.cell? ⟨b, off + k * 2, none⟩ = some (.int .i64 s.op) ∧ w'.cell? ⟨b, off + k * 2 + 1, none⟩ = some (.slice s.a s.n s.cap)) (go_keep) (fail)
      obtain ⟨W, hW⟩ : ∃ W, W = (wr.alloc (.cells #[.int .i64 (1 + r), .slice s.a s.n s.cap] 57)).drew := ⟨_, rfl⟩
      rw [← hW]
      have hSS : Same wr W := by rw [hW]; exact ((Only.refl _ wr).alloc _).drew
      have hB : W.heap[wr.heap.size]? = some (.cells #[.int .i64 (1 + r), .slice s.a s.n s.cap] 57 (0, 0)) := by rw [hW]; exact heap_alloc_new wr _
      have HSZ : Hid (W.heap.size = wr.heap.size + 1) := Lib.hid (by rw [hW]; show (wr.alloc _).heap.size = _; simp)
      obtain ⟨d0, d1, f0, f1⟩ : W.cell? ⟨wr.heap.size, 0, none⟩ = some (.int .i64 (1 + r)) ∧ W.cell? ⟨wr.heap.size, 1, none⟩ = some (.slice s.a s.n s.cap) ∧ W.frozen? ⟨wr.heap.size, 0, none⟩ = false ∧ W.frozen? ⟨wr.heap.size, 1, none⟩ = false :=
        ⟨block_cell hB rfl, block_cell hB rfl, block_free hB, block_free hB⟩
      have HOWNW := Lib.hid (HOWN.out.keep hSS (fun _ _ => id))
      have HLT : Hid (∀ j, At oa j → j < wr.heap.size) := Lib.hid HOWN.out.lt
      have HSW := Lib.hid (Same.trans HO.out hSS)
      have HRE := Lib.hid hr
      have hszw := HSZ.out
      have hszi : wr.heap.size < W.heap.size := by omega
      clear hW hSS hB c0 c1 hr hw1 hszw
      by_cases h5 : 1 + r < 1
      · have h5' : r < 0 := by omega
        by_cases h20 : 20 < s.n
        · have h20' : (20 : Int) < (s.n : Int) := by omega
          have hfew : Hid (stc s.few = [.int .i64 1, .slice s.a 20 s.cap]) := Lib.hid (by
            unfold St.few stc
            dsimp only
            rw [HRE.out, if_pos h5, Nat.min_eq_right (by omega)])
          clear h5 h20
          go_wp2_with (at_builtin; refine wpList_append (k + 1) (stCells ((l.map St.few).take k) ++ [.int .i64 1, .slice s.a 20 s.cap]) rfl _ _ _ _ rfl slSt rfl (HOWNW.out.keep (S := fun j => j = wr.heap.size) (by repeat (first | exact Only.refl _ _ | apply Only.alloc | refine Only.setCell ?_ _ _ (fun _ => rfl) | apply Only.drewN | apply Only.drew)) (fun j hj e => by have := HLT.out j hj; omega)) rfl (Src.row (size := 2) (cs := #[.int .i64 1, .slice s.a 20 s.cap]) (t := 57) (fr := (0, 0)) Try.underlying50 (heap_alloc_new' _ _ _ (by simp)) 1 1 rfl (by simp [Value.oneCell'])) rfl rfl (by unfold maxLen; omega) (by omega) ?_)
          intro a' cap' w2 hG
          have HG := Lib.hid hG
          have HO2 : Hid (Same w w2) := Lib.hid (Only.trans (S := fun _ => False) (T := At oa) (by repeat (first | exact HSW.out | apply Only.alloc | refine Only.setCell ?_ _ _ (fun h => absurd h (by have := HO.out.size; simp; omega)) | apply Only.drewN | apply Only.drew)) hG.only (fun j hj h => by have := HFR.out j h; omega))
          have HF2 : Hid (∀ j, At a' j → w.heap.size ≤ j) := Lib.hid (fun j hj => by
            rcases hG.fresh j hj with h | h
            · exact HFR.out j h
            · have := HO.out.size; have := HSZ.out; simp at h; omega)
          clear hG
          go_wp2_with fail
          go_roundw
          case rel => exact ⟨k + 1, a', cap', by omega, by go_num, rfl, by rw [HF.out, stCells_app, show stCells [s.few] = stc s.few ++ [] from rfl, List.append_nil, hfew.out]; exact HG.out.own, HO2.out, HF2.out⟩
          case measure => simp [intOf]; omega
        · have h20' : ¬ (20 : Int) < (s.n : Int) := by omega
          have hfew : Hid (stc s.few = [.int .i64 1, .slice s.a s.n s.cap]) := Lib.hid (by
            unfold St.few stc
            dsimp only
            rw [HRE.out, if_pos h5, Nat.min_eq_left (by omega)])
          clear h5 h20
          go_wp2_with (at_builtin; refine wpList_append (k + 1) (stCells ((l.map St.few).take k) ++ [.int .i64 1, .slice s.a s.n s.cap]) rfl _ _ _ _ rfl slSt rfl (HOWNW.out.keep (S := fun j => j = wr.heap.size) (by repeat (first | exact Only.refl _ _ | apply Only.alloc | refine Only.setCell ?_ _ _ (fun _ => rfl) | apply Only.drewN | apply Only.drew)) (fun j hj e => by have := HLT.out j hj; omega)) rfl (Src.row (size := 2) (cs := #[.int .i64 1, .slice s.a s.n s.cap]) (t := 57) (fr := (0, 0)) Try.underlying50 (heap_alloc_new' _ _ _ (by simp)) 1 1 rfl (by simp [Value.oneCell'])) rfl rfl (by unfold maxLen; omega) (by omega) ?_)
          intro a' cap' w2 hG
          have HG := Lib.hid hG
          have HO2 : Hid (Same w w2) := Lib.hid (Only.trans (S := fun _ => False) (T := At oa) (by repeat (first | exact HSW.out | apply Only.alloc | refine Only.setCell ?_ _ _ (fun h => absurd h (by have := HO.out.size; simp; omega)) | apply Only.drewN | apply Only.drew)) hG.only (fun j hj h => by have := HFR.out j h; omega))
          have HF2 : Hid (∀ j, At a' j → w.heap.size ≤ j) := Lib.hid (fun j hj => by
            rcases hG.fresh j hj with h | h
            · exact HFR.out j h
            · have := HO.out.size; have := HSZ.out; simp at h; omega)
          clear hG
          go_wp2_with fail
          go_roundw
          case rel => exact ⟨k + 1, a', cap', by omega, by go_num, rfl, by rw [HF.out, stCells_app, show stCells [s.few] = stc s.few ++ [] from rfl, List.append_nil, hfew.out]; exact HG.out.own, HO2.out, HF2.out⟩
          case measure => simp [intOf]; omega
      · have h5' : ¬ r < 0 := by omega
        by_cases h20 : 20 < s.n
        · have h20' : (20 : Int) < (s.n : Int) := by omega
          have hfew : Hid (stc s.few = [.int .i64 (1 + r), .slice s.a 20 s.cap]) := Lib.hid (by
            unfold St.few stc
            dsimp only
            rw [HRE.out, if_neg h5, Nat.min_eq_right (by omega)])
          clear h5 h20
          go_wp2_with (at_builtin; refine wpList_append (k + 1) (stCells ((l.map St.few).take k) ++ [.int .i64 (1 + r), .slice s.a 20 s.cap]) rfl _ _ _ _ rfl slSt rfl (HOWNW.out.keep (S := fun j => j = wr.heap.size) (by repeat (first | exact Only.refl _ _ | apply Only.alloc | refine Only.setCell ?_ _ _ (fun _ => rfl) | apply Only.drewN | apply Only.drew)) (fun j hj e => by have := HLT.out j hj; omega)) rfl (Src.row (size := 2) (cs := #[.int .i64 (1 + r), .slice s.a 20 s.cap]) (t := 57) (fr := (0, 0)) Try.underlying50 (heap_alloc_new' _ _ _ (by simp)) 1 1 rfl (by simp [Value.oneCell'])) rfl rfl (by unfold maxLen; omega) (by omega) ?_)
          intro a' cap' w2 hG
          have HG := Lib.hid hG
          have HO2 : Hid (Same w w2) := Lib.hid (Only.trans (S := fun _ => False) (T := At oa) (by repeat (first | exact HSW.out | apply Only.alloc | refine Only.setCell ?_ _ _ (fun h => absurd h (by have := HO.out.size; simp; omega)) | apply Only.drewN | apply Only.drew)) hG.only (fun j hj h => by have := HFR.out j h; omega))
          have HF2 : Hid (∀ j, At a' j → w.heap.size ≤ j) := Lib.hid (fun j hj => by
            rcases hG.fresh j hj with h | h
            · exact HFR.out j h
            · have := HO.out.size; have := HSZ.out; simp at h; omega)
          clear hG
          go_wp2_with fail
          go_roundw
          case rel => exact ⟨k + 1, a', cap', by omega, by go_num, rfl, by rw [HF.out, stCells_app, show stCells [s.few] = stc s.few ++ [] from rfl, List.append_nil, hfew.out]; exact HG.out.own, HO2.out, HF2.out⟩
          case measure => simp [intOf]; omega
        · have h20' : ¬ (20 : Int) < (s.n : Int) := by omega
          have hfew : Hid (stc s.few = [.int .i64 (1 + r), .slice s.a s.n s.cap]) := Lib.hid (by
            unfold St.few stc
            dsimp only
            rw [HRE.out, if_neg h5, Nat.min_eq_left (by omega)])
          clear h5 h20
          go_wp2_with (at_builtin; refine wpList_append (k + 1) (stCells ((l.map St.few).take k) ++ [.int .i64 (1 + r), .slice s.a s.n s.cap]) rfl _ _ _ _ rfl slSt rfl (HOWNW.out.keep (S := fun j => j = wr.heap.size) (by repeat (first | exact Only.refl _ _ | apply Only.alloc | refine Only.setCell ?_ _ _ (fun _ => rfl) | apply Only.drewN | apply Only.drew)) (fun j hj e => by have := HLT.out j hj; omega)) rfl (Src.row (size := 2) (cs := #[.int .i64 (1 + r), .slice s.a s.n s.cap]) (t := 57) (fr := (0, 0)) Try.underlying50 (heap_alloc_new' _ _ _ (by simp)) 1 1 rfl (by simp [Value.oneCell'])) rfl rfl (by unfold maxLen; omega) (by omega) ?_)
          intro a' cap' w2 hG
          have HG := Lib.hid hG
          have HO2 : Hid (Same w w2) := Lib.hid (Only.trans (S := fun _ => False) (T := At oa) (by repeat (first | exact HSW.out | apply Only.alloc | refine Only.setCell ?_ _ _ (fun h => absurd h (by have := HO.out.size; simp; omega)) | apply Only.drewN | apply Only.drew)) hG.only (fun j hj h => by have := HFR.out j h; omega))
          have HF2 : Hid (∀ j, At a' j → w.heap.size ≤ j) := Lib.hid (fun j hj => by
            rcases hG.fresh j hj with h | h
            · exact HFR.out j h
            · have := HO.out.size; have := HSZ.out; simp at h; omega)
          clear hG
          go_wp2_with fail
          go_roundw
          case rel => exact ⟨k + 1, a', cap', by omega, by go_num, rfl, by rw [HF.out, stCells_app, show stCells [s.few] = stc s.few ++ [] from rfl, List.append_nil, hfew.out]; exact HG.out.own, HO2.out, HF2.out⟩
          case measure => simp [intOf]; omega
    · have hcase : ¬ (k : Int) < (n : Int) ∨ ((k : Int) < (n : Int) ∧ ¬ (k : Int) < 40) := by omega
      obtain rfl : k = N := by omega
      have HE : Hid (FSteps w l (.returned (.slice oa k oc)) wr) := Lib.hid ⟨oa, k, oc, rfl, ⟨by rw [HT.out]; exact HOWN.out.rd, by rw [HT.out, List.length_take, List.length_map, HL.out]; omega⟩, HO.out⟩
      clear hlt hN3
      rcases hcase with h1 | ⟨h1, h2⟩
      all_goals
        go_wp2_with fail
        go_ret
        exact HE.out
end Go.Proofs.Ytpiajkabikbdnaa.bs

/-
  The queue's methods: New, Put, Get, Peek, Len, Empty, Disposed.
-/
import Derived.Test.YtpddddjfjmipfaaDoorPqGet
import Derived.Test.YtpddddjfjmipfaaDoorMapS
namespace Go.Proofs.YtpddddjfjmipfaaDoor.pq
open Go.RowKit Go.Proofs.YtpddddjfjmipfaaDoor.base Go.Proofs.YtpddddjfjmipfaaDoor.heap Go.Proofs.YtpddddjfjmipfaaDoor.rows
set_option linter.unusedVariables false

theorem run_checkKey (k t : Int) (b : Bool) (w : World) : (Instr.checkKey b 10000 77 (iw k t)).run Tryd.prog w = .ok () w := by kernel_rfl
theorem run_findNone (k t : Int) (w : World) : (Instr.findKey 77 (iw k t) []).run Tryd.prog w = .ok none w := by kernel_rfl
theorem ME.drop {w : World} {mb : Nat} (h : ME w mb) (k t : Int) (ty : TypeId) :
    ∃ w', (Builtin.delete_ #[65, 77] ty #[.map (some mb), iw k t]).run Tryd.prog w = .ok (.tuple #[]) w' ∧ ME w' mb ∧ Only (fun j => j = mb) w w' := by
  obtain ⟨c, hb⟩ := h
  have h1 := run_checkKey k t true w
  have h2 := run_findNone k t w
  refine ⟨ChangeMaps.setBlock w mb (.map #[] c), ?_, ⟨c, ChangeMaps.heap_setBlock_same hb _⟩, ⟨rfl, rfl, rfl, by simp [ChangeMaps.setBlock], fun j _ hj => ChangeMaps.heap_setBlock_other hb _ hj⟩⟩
  simp [Builtin.delete_, run_underlying Tryd.underlying65, MapKept.run_getObj_map hb, h1, h2, MapKept.run_setObj_map _ hb, Result.andThen, ChangeMaps.setBlock]
theorem wpList_drop {ops : Array Oper} {rest : List Oper} {o : Oper} {a : Act} {w : World} {Q : Exit → Act → World → Prop} {mb : Nat} (hg : o.guard = none) (m x : Operand) (hop : o.op = Op.call { callee := Callee.builtin Builtin.delete, args := #[m, x], argTypes := #[65, 77] })
    (hm : a.eval m = .map (some mb)) (k t : Int) (hx : a.eval x = iw k t) (h : ME w mb)
    (hk : ∀ w', ME w' mb → Only (fun j => j = mb) w w' → wpList Tryd.prog ops Q rest (a.put o.dst (.tuple #[])) w') : wpList Tryd.prog ops Q (o :: rest) a w := by
  refine wpList_plain hg fun K' hK' => ?_
  obtain ⟨w', hrun, r1, r2⟩ := h.drop k t o.type
  unfold Oper.wp
  simp [execOp, hop, resolve, invoke, builtin, hm, hx, hrun, Result.andThen]
  exact hK' _ _ (hk w' r1 r2)

set_option maxRecDepth 100000 in
set_option maxHeartbeats 1600000 in
theorem delQ {w : World} {ob mb : Nat} {a : Option Addr} {cap : Nat} {L R : List It} {ra : Option Addr} {rc pb : Nat} (h : Q w ob mb a cap L) (hr : OL 77 itv w ra R.length rc R) (hb : w.heap[pb]? = some (.cells #[.pointer (some ⟨ob, 0, none⟩)] 45 (0, 0)))
    (hp : pb ≠ mb) (hm : ¬ At ra mb) (hl : R.length ≤ 1000) :
    Calls Tryd.prog 33 #[.slice ra R.length rc, .pointer (some ⟨pb, 0, none⟩)] w fun e w' => e = .returned (.tuple #[]) ∧ ME w' mb ∧ Only (fun j => j = mb) w w' := by
  have hbd := hr.bound
  have HQ := Lib.hid h
  have HR := Lib.hid hr
  have HB := Lib.hid hb
  have HN : Hid (pb ≠ mb ∧ ob ≠ mb ∧ ¬ At ra mb) := Lib.hid ⟨hp, h.ne, hm⟩
  obtain ⟨n, HL⟩ : ∃ n, Hid (R.length = n) := ⟨_, Lib.hid rfl⟩
  rw [HL.out] at hbd hl ⊢
  clear h hr hb hp hm
  go_enter Tryd.func33, Tryd.ntmps33
  go_wp2_with fail
  go_loopw [7] (fun i wr => ∃ j : Nat, i = .int .i64 (j : Int) ∧ j ≤ n ∧ Hid (ME wr mb ∧ Only (fun j => j = mb) w wr)) (fun i _ => n - (intOf i).toNat)
  case atStart => exact ⟨0, rfl, Nat.zero_le _, Lib.hid ⟨HQ.out.map, Only.refl _ _⟩⟩
  case round =>
    obtain ⟨j, rfl, hj, HI⟩ := hrel
    by_cases hlt : j < n
    · have hlt' : (j : Int) < (n : Int) := by omega
      obtain ⟨b, off, ha, hb, hc⟩ := (HR.out.keep HI.out.2 (fun k hk e => HN.out.2.2 (by rw [← e]; exact hk))).rl.at (by rw [HL.out]; omega)
      obtain ⟨⟨kx, tx⟩, hx⟩ : ∃ x, R[j]? = some x := ⟨_, List.getElem?_eq_getElem (by rw [HL.out]; exact hlt)⟩
      have c0 : wr.cell? ⟨b, off + j, none⟩ = some (iw kx tx) := hc j _ hx
      have b0 : wr.cell? ⟨pb, 0, none⟩ = some (.pointer (some ⟨ob, 0, none⟩)) := block_cell (HI.out.2.obj HB.out HN.out.1) rfl
      have m0 : wr.cell? ⟨ob, 1, none⟩ = some (.map (some mb)) := block_cell (HI.out.2.obj HQ.out.obj HN.out.2.1) rfl
      subst ha
      clear hc hx
      go_wp2_with ((refine wpList_drop rfl _ _ rfl rfl kx tx rfl HI.out.1 ?_))
      intro w2 r1 r2
      have HI2 : Hid (ME w2 mb ∧ Only (fun j => j = mb) w w2) := Lib.hid ⟨r1, HI.out.2.trans r2 (fun _ _ h => h)⟩
      clear r1 r2
      go_wp2_with fail
      go_roundw
      case rel => exact ⟨j + 1, by go_num, by omega, HI2⟩
      case measure => simp [intOf]; omega
    · have hlt' : ¬ (j : Int) < (n : Int) := by omega
      go_wp2_with fail
      go_end0
      exact ⟨rfl, HI.out⟩

def NewPost (w : World) (e : Ending) (w' : World) : Prop := ∃ ob mb a cap, e = .returned (.pointer (some ⟨ob, 0, none⟩)) ∧ Q w' ob mb a cap [] ∧ Same w w' ∧ ∀ k, Fp ob mb a k → w.heap.size ≤ k
theorem heap3_a (w : World) (A B C : Obj) : (((w.alloc A).alloc B).alloc C).drew.heap[w.heap.size]? = some A := by
  show (((w.heap.push A).push B).push C)[w.heap.size]? = _
  simp [Array.getElem?_push]
  intro h; omega
theorem heap3_b (w : World) (A B C : Obj) : (((w.alloc A).alloc B).alloc C).drew.heap[w.heap.size + 1]? = some B := by
  show (((w.heap.push A).push B).push C)[w.heap.size + 1]? = _
  rw [Array.getElem?_push, if_neg (by simp), Array.getElem?_push, if_pos (by simp)]
theorem heap3_c (w : World) (A B C : Obj) : (((w.alloc A).alloc B).alloc C).drew.heap[w.heap.size + 1 + 1]? = some C := by
  show (((w.heap.push A).push B).push C)[w.heap.size + 1 + 1]? = _
  rw [Array.getElem?_push, if_pos (by simp)]
theorem new_ok {w w' : World} {ob mb g k : Nat} (hs : Same w w') (h1 : w'.heap[ob]? = some (.cells #[.slice (some ⟨g, 0, none⟩) 0 k, .map (some mb), .bool false, .bool true] 67 (0, 0))) (h2 : w'.heap[mb]? = some (.map #[] 0))
    (h3 : w'.heap[g]? = some (.cells (madeCells #[Value.nilIface] k) 77 (0, 0))) (hk : k ≤ 1000) (n1 : ob ≠ mb) (n2 : g ≠ ob) (n3 : g ≠ mb) (l1 : w.heap.size ≤ ob) (l2 : w.heap.size ≤ mb) (l3 : w.heap.size ≤ g) :
    Q w' ob mb (some ⟨g, 0, none⟩) k [] ∧ Same w w' ∧ ∀ j, Fp ob mb (some ⟨g, 0, none⟩) j → w.heap.size ≤ j := by
  refine ⟨⟨h1, ⟨?_, rfl⟩, ⟨0, h2⟩, n1, n2, n3⟩, hs, ?_⟩
  · have := Own.of_block (e := 77) (size := 1) h3 0 k (Nat.zero_le _) (by unfold maxLen; omega) (by simp [madeCells]) (by simp)
    simpa using this
  · rintro j (rfl | rfl | h)
    · exact l1
    · exact l2
    · have : g = j := h
      omega
set_option maxRecDepth 100000 in
set_option maxHeartbeats 1600000 in
theorem newQ (k : Nat) (hk : k ≤ 1000) (w : World) : Calls Tryd.prog 7 #[.int .i64 (k : Int), .bool true] w (NewPost w) := by
  have hmk := make0_eq (P := Tryd.prog) (e := 77) (size := 1) (t := 64) (z := .nilIface) (bytes := 16) .i64 .i64 Tryd.underlying64 (by kernel_rfl) k (by omega) (by omega)
  have hmm : ∀ wx : World, (Instr.makeMap 65 (some (.int .i64 (k : Int)))).run Tryd.prog wx = .ok (.map (some wx.heap.size)) (wx.alloc (.map #[] 0)) := fun wx => by
    simp [Instr.makeMap, asInt, asIntOf, Result.andThen]
  go_enter Tryd.func7, Tryd.ntmps7
  go_wp2_with fail
  go_region
  all_goals go_wp2_with fail
  all_goals go_ret
  · exact ⟨w.heap.size + 1 + 1, w.heap.size + 1, some ⟨w.heap.size, 0, none⟩, k, rfl, new_ok (((((Only.refl _ w).alloc _).alloc _).alloc _).drew) (heap3_c _ _ _ _) (heap3_b _ _ _ _) (heap3_a _ _ _ _) hk (by omega) (by omega) (by omega) (by omega) (by omega) (by omega)⟩
  · exact ⟨w.heap.size + 1 + 1, w.heap.size, some ⟨w.heap.size + 1, 0, none⟩, k, rfl, new_ok (((((Only.refl _ w).alloc _).alloc _).alloc _).drew) (heap3_c _ _ _ _) (heap3_a _ _ _ _) (heap3_b _ _ _ _) hk (by omega) (by omega) (by omega) (by omega) (by omega) (by omega)⟩

section
variable {w : World} {ob mb : Nat} {a : Option Addr} {cap : Nat} {L : List It}
set_option maxRecDepth 100000 in
theorem lenQ (h : Q w ob mb a cap L) : Calls Tryd.prog 21 #[.pointer (some ⟨ob, 0, none⟩)] w fun e w' => e = .returned (.int .i64 (L.length : Int)) ∧ w = w' := by
  have q0 : w.cell? ⟨ob, 0, none⟩ = some (.slice a L.length cap) := block_cell h.obj rfl
  clear h
  go_enter Tryd.func21, Tryd.ntmps21
  go_wp2
  go_ret
  exact ⟨rfl, rfl⟩
set_option maxRecDepth 100000 in
theorem emptyQ (h : Q w ob mb a cap L) : Calls Tryd.prog 17 #[.pointer (some ⟨ob, 0, none⟩)] w fun e w' => e = .returned (.bool (decide (L.length = 0))) ∧ w = w' := by
  have q0 : w.cell? ⟨ob, 0, none⟩ = some (.slice a L.length cap) := block_cell h.obj rfl
  clear h
  generalize L.length = n at *
  rcases Nat.eq_zero_or_pos n with rfl | hp
  · go_enter Tryd.func17, Tryd.ntmps17
    go_wp2
    go_ret
    exact ⟨rfl, rfl⟩
  · rw [decide_eq_false (by omega)]
    have h1 : ((n : Int) == 0) = false := by simp; omega
    have h2 : (n == 0) = false := by simp; omega
    have h3 : ¬ n = 0 := by omega
    go_enter Tryd.func17, Tryd.ntmps17
    go_wp2
    go_ret
    exact ⟨by simp, rfl⟩
set_option maxRecDepth 100000 in
theorem disposedQ (h : Q w ob mb a cap L) : Calls Tryd.prog 18 #[.pointer (some ⟨ob, 0, none⟩)] w fun e w' => e = .returned (.bool false) ∧ w = w' := by
  have q0 : w.cell? ⟨ob, 2, none⟩ = some (.bool false) := block_cell h.obj rfl
  clear h
  go_enter Tryd.func18, Tryd.ntmps18
  go_wp2
  go_ret
  exact ⟨rfl, rfl⟩
set_option maxRecDepth 100000 in
theorem peekQ (h : Q w ob mb a cap L) {x : It} (hx : L[0]? = some x) : Calls Tryd.prog 20 #[.pointer (some ⟨ob, 0, none⟩)] w fun e w' => e = .returned (iw x.key x.tag) ∧ w = w' := by
  have h0 : 0 < L.length := (List.getElem?_eq_some_iff.1 hx).1
  obtain ⟨g, rfl, hb, hg, hc, hf⟩ := h.at h0
  have q0 : w.cell? ⟨ob, 0, none⟩ = some (.slice (some ⟨g, 0, none⟩) L.length cap) := block_cell h.obj rfl
  have c0 : w.cell? ⟨g, 0, none⟩ = some (iw x.key x.tag) := hc 0 x hx
  have h0' : (0 : Int) < (L.length : Int) := by omega
  clear h hx hc hf
  generalize x.key = kx at *
  generalize x.tag = tx at *
  go_enter Tryd.func20, Tryd.ntmps20
  go_wp2
  go_ret
  exact ⟨rfl, rfl⟩
set_option maxRecDepth 100000 in
theorem peekNone (h : Q w ob mb a cap []) : Calls Tryd.prog 20 #[.pointer (some ⟨ob, 0, none⟩)] w fun e w' => e = .returned .nilIface ∧ w = w' := by
  have q0 : w.cell? ⟨ob, 0, none⟩ = some (.slice a 0 cap) := block_cell h.obj rfl
  clear h
  go_enter Tryd.func20, Tryd.ntmps20
  go_wp2
  go_ret
  exact ⟨rfl, rfl⟩
end
end Go.Proofs.YtpddddjfjmipfaaDoor.pq

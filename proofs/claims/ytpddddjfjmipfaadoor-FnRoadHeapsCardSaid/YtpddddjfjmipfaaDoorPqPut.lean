/-
  Put and Get.
-/
import Derived.Test.YtpddddjfjmipfaaDoorPqCalls
namespace Go.Proofs.YtpddddjfjmipfaaDoor.pq
open Go.RowKit Go.Proofs.YtpddddjfjmipfaaDoor.base Go.Proofs.YtpddddjfjmipfaaDoor.heap Go.Proofs.YtpddddjfjmipfaaDoor.rows
set_option linter.unusedVariables false

/-- the queue has changed: it holds L' -/
structure Now (w w' : World) (ob mb : Nat) (a a' : Option Addr) (cap' : Nat) (L' : List It) : Prop where
  q : Q w' ob mb a' cap' L'
  heap : Heap L'
  only : Only (Fp ob mb a) w w'
  fresh : ∀ k, At a' k → At a k ∨ w.heap.size ≤ k
def PutPost (w : World) (ob mb : Nat) (a : Option Addr) (L R : List It) (e : Ending) (w' : World) : Prop :=
  e = .returned .nilIface ∧ ∃ a' cap' L', Now w w' ob mb a a' cap' L' ∧ L'.Perm (L ++ R)

set_option maxRecDepth 100000 in
set_option maxHeartbeats 1600000 in
theorem putQ {w : World} {ob mb : Nat} {a : Option Addr} {cap : Nat} {L R : List It} (h : Q w ob mb a cap L) (hh : Heap L) {ra : Option Addr} {rc m : Nat} (hr : RL itv w ra m rc R) (h0 : 0 < m) (hlt : ∀ k, At ra k → k < w.heap.size) (hap : ∀ k, At ra k → ¬ Fp ob mb a k) (hl : L.length + m < 100000) :
    Calls Tryd.prog 16 #[.pointer (some ⟨ob, 0, none⟩), .slice ra m rc] w (PutPost w ob mb a L R) := by
  have hbd := hr.bound
  have HQ := Lib.hid h
  have HH := Lib.hid hh
  have HR := Lib.hid hr
  have HA : Hid ((∀ k, At ra k → k < w.heap.size) ∧ ∀ k, At ra k → ¬ Fp ob mb a k) := Lib.hid ⟨hlt, hap⟩
  have d0 : w.cell? ⟨ob, 2, none⟩ = some (.bool false) := block_cell h.obj rfl
  have h0' : ¬ (m : Int) = 0 := by omega
  have h1' : ((m : Int) == 0) = false := by simpa using h0'
  have h2' : (m == 0) = false := by simp; omega
  clear h hh hr hlt hap
  go_enter Tryd.func16, Tryd.ntmps16
  go_wp2_with fail
  clear d0 h0' h1' h2'
  go_loopw [19] (fun i wr => ∃ (j : Nat) (a' : Option Addr) (cap' : Nat) (L' : List It), i = .int .i64 (j : Int) ∧ j ≤ m ∧ Hid (Now w wr ob mb a a' cap' L' ∧ L'.Perm (L ++ R.take j))) (fun i _ => m - (intOf i).toNat)
  case atStart => exact ⟨0, a, cap, L, rfl, Nat.zero_le _, Lib.hid ⟨⟨HQ.out, HH.out, Only.refl _ _, fun k hk => .inl hk⟩, by simp⟩⟩
  case round =>
    obtain ⟨j, a', cap', L', rfl, hj, HI⟩ := hrel
    by_cases hlt : j < m
    · have hlt' : (j : Int) < (m : Int) := by omega
      have HRJ := Lib.hid (HR.out.keep HI.out.1.only (fun k hk hf => HA.out.2 k hk hf))
      obtain ⟨b, off, ha, hb, hc⟩ := HRJ.out.at (by omega)
      obtain ⟨⟨kx, tx⟩, hx⟩ := HRJ.out.get hlt
      have c0 : wr.cell? ⟨b, off + j, none⟩ = some (iw kx tx) := hc j _ hx
      have HX := Lib.hid hx
      have p0 : wr.cell? ⟨ob, 3, none⟩ = some (.bool true) := block_cell HI.out.1.q.obj rfl
      have hle : L'.length < 100000 := by
        have := HI.out.2.length_eq
        rw [List.length_append, List.length_take] at this
        omega
      have HP : Hid (Calls Tryd.prog 32 #[.pointer (some ⟨ob, 0, none⟩), iw kx tx] wr fun e w' => e = .returned (.tuple #[]) ∧ ∃ a2 cap2 L2, Q w' ob mb a2 cap2 L2 ∧ Heap L2 ∧ L2.Perm (L' ++ [(⟨kx, tx⟩ : It)]) ∧ Only (Fp ob mb a') wr w' ∧ ∀ k, At a2 k → At a' k ∨ wr.heap.size ≤ k) := Lib.hid (pushQ HI.out.1.q HI.out.1.heap hle ⟨kx, tx⟩)
      subst ha
      clear hc hx hle
      go_wp2_with fail
      refine HP.out.mono ?_
      rintro e w2 ⟨rfl, a2, cap2, L2, hq2, hh2, hp2, ho2, hf2⟩
      have HI2 : Hid (Now w w2 ob mb a a2 cap2 L2 ∧ L2.Perm (L ++ R.take (j + 1))) := Lib.hid (by
        have hn := HI.out.1
        have hs := hn.only.size
        refine ⟨⟨hq2, hh2, hn.only.trans ho2 (fun k hk hf => ?_), fun k hk => ?_⟩, ?_⟩
        · rcases hf with h | h | h
          · exact .inl h
          · exact .inr (.inl h)
          · rcases hn.fresh k h with h | h
            · exact .inr (.inr h)
            · omega
        · rcases hf2 k hk with h | h
          · exact hn.fresh k h
          · exact .inr (by omega)
        · rw [take_snoc R j _ HX.out, ← List.append_assoc]
          exact hp2.trans (HI.out.2.append_right _))
      clear hq2 hh2 hp2 ho2 hf2 HP
      go_wp2_with fail
      go_roundw
      case rel => exact ⟨j + 1, a2, cap2, L2, by go_num, by omega, HI2⟩
      case measure => simp [intOf]; omega
    · have hlt' : ¬ (j : Int) < (m : Int) := by omega
      obtain rfl : j = m := by omega
      go_wp2_with fail
      go_ret
      refine ⟨rfl, a', cap', L', HI.out.1, ?_⟩
      have := HI.out.2
      rwa [List.take_of_length_le (by rw [HR.out.2]; exact Nat.le_refl _)] at this

/-- what Get leaves -/
structure Took (w w' : World) (ob mb : Nat) (a : Option Addr) (cap : Nat) (L : List It) (ra : Option Addr) (rc : Nat) (R rest : List It) : Prop where
  q : Q w' ob mb a cap rest
  got : Got L R rest
  row : OL 77 itv w' ra R.length rc R
  only : Only (Fp ob mb a) w w'
  new : ∀ j, At ra j → w.heap.size ≤ j
def TakePost (w : World) (ob mb : Nat) (a : Option Addr) (cap k : Nat) (L : List It) (e : Ending) (w' : World) : Prop :=
  ∃ ra rc R rest, e = .returned (.tuple #[.slice ra R.length rc, .nilIface]) ∧ R.length = min k L.length ∧ Took w w' ob mb a cap L ra rc R rest

set_option maxRecDepth 100000 in
set_option maxHeartbeats 1600000 in
theorem takeQ {w : World} {ob mb : Nat} {a : Option Addr} {cap : Nat} {L : List It} (h : Q w ob mb a cap L) (hh : Heap L) (hl : L.length < 100000) (k : Nat) (hk0 : 1 ≤ k) (hk : k ≤ 1000) :
    Calls Tryd.prog 19 #[.pointer (some ⟨ob, 0, none⟩), .int .i64 (k : Int)] w (TakePost w ob mb a cap k L) := by
  have HQ := Lib.hid h
  have HLT := Lib.hid h.lt
  have HQ1 : Hid (∀ o, Q (w.alloc o) ob mb a cap L) := Lib.hid (fun o => h.still ((Only.refl _ _).alloc _))
  have d0 : w.cell? ⟨ob, 2, none⟩ = some (.bool false) := block_cell h.obj rfl
  have hob : ob < w.heap.size := lt_of_heap h.obj
  have HH := Lib.hid hh
  have HL := Lib.hid hl
  have hk1 : ¬ (k : Int) < 1 := by omega
  clear h hh hl
  go_enter Tryd.func19, Tryd.ntmps19
  go_wp2_with fail
  refine (getQ (HQ1.out _) HH.out HL.out k hk).mono ?_
  rintro e w1 ⟨ra, rc, R, rest, rfl, hlen, hG⟩
  have HG := Lib.hid hG
  have HLEN := Lib.hid hlen
  clear hG hlen
  have HB : Hid (w1.heap[w.heap.size]? = some (.cells #[.pointer (some ⟨ob, 0, none⟩)] 45 (0, 0))) := Lib.hid (HG.out.only.obj (heap_alloc_new w _) (fun hf => Nat.lt_irrefl _ (HLT.out _ hf)))
  have HNM : Hid (w.heap.size ≠ mb ∧ ¬ At ra mb) := Lib.hid ⟨fun e => by have := HLT.out mb (.inr (.inl rfl)); omega, fun e => by
    have h1 := HG.out.new mb e
    have h2 := HLT.out mb (.inr (.inl rfl))
    have h3 : w.heap.size + 1 ≤ mb := by simpa using h1
    omega⟩
  go_wp2_with fail
  refine (delQ HG.out.q HG.out.row HB.out HNM.out.1 HNM.out.2 (by rw [HLEN.out]; omega)).mono ?_
  rintro e w2 ⟨rfl, hm2, ho2⟩
  have HT : Hid (Took w w2 ob mb a cap L ra rc R rest) := Lib.hid (by
    have hg := HG.out
    have hr2 := hg.row.keep ho2 (fun k hk e => HNM.out.2 (by rw [← e]; exact hk))
    refine ⟨⟨ho2.obj hg.q.obj hg.q.ne, hg.q.own.keep ho2 (fun k hk e => hg.q.nmb (by rw [← e]; exact hk)), hm2, hg.q.ne, hg.q.nob, hg.q.nmb⟩, hg.got, hr2, ?_, fun j hj => ?_⟩
    · have h1 : Only (Fp ob mb a) w w1 := Only.trans ((Only.refl _ w).alloc _) hg.only (fun _ _ h => h)
      exact h1.trans ho2 (fun k _ e => .inr (.inl e))
    · have h3 : w.heap.size + 1 ≤ j := by simpa using hg.new j hj
      omega)
  clear hm2 ho2
  go_wp2_with fail
  go_ret2
  exact ⟨ra, rc, R, rest, rfl, HLEN.out, HT.out⟩
end Go.Proofs.YtpddddjfjmipfaaDoor.pq

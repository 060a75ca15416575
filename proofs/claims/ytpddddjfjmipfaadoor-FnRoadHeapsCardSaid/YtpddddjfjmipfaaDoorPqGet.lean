/-
  get: the least elements, one after the other.
-/
import Derived.Test.YtpddddjfjmipfaaDoorPqPop
namespace Go.Proofs.YtpddddjfjmipfaaDoor.pq
open Go.RowKit Go.Proofs.YtpddddjfjmipfaaDoor.base Go.Proofs.YtpddddjfjmipfaaDoor.heap Go.Proofs.YtpddddjfjmipfaaDoor.rows
set_option linter.unusedVariables false

theorem make0_eq {P : Program} {e size : Nat} {t : Nat} {z : Value} {bytes : Nat} (kl kc : IntKind) (ht : P.underlying t = some (.slice e)) (h' : (P.info? e).map (fun i => (i.zero, i.size, i.bytes)) = some (some z, size, bytes)) (k : Nat)
    (hb : bytes * k ≤ 281474976710656) (hk : k ≤ 9223372036854775807) (w : World) :
    (Instr.makeSlice t (.int kl 0) (.int kc (k : Int))).run P w = .ok (.slice (some ⟨w.heap.size, 0, none⟩) 0 k) (w.alloc (.cells (madeCells z.cells (k * size)) e)) := by
  obtain ⟨i, hi, h1, h2, h3⟩ := info_parts h'
  have h := run_make (P := P) w t e i z ht hi h1 kl kc 0 (k : Int) (by omega) (by omega) (by rw [h3]; have : ((bytes * k : Nat) : Int) = (bytes : Int) * (k : Int) := Int.natCast_mul _ _; omega) (by omega)
  rw [h2, Int.toNat_natCast] at h
  exact h

/-- what get hands back -/
structure GotQ (w w' : World) (ob mb : Nat) (a : Option Addr) (cap k : Nat) (L : List It) (ra : Option Addr) (rc : Nat) (R rest : List It) : Prop where
  q : Q w' ob mb a cap rest
  got : Got L R rest
  row : OL 77 itv w' ra R.length rc R
  only : Only (Fp ob mb a) w w'
  new : ∀ j, At ra j → w.heap.size ≤ j

theorem GotQ.step {w w1 w2 w3 : World} {ob mb : Nat} {a ra ra2 : Option Addr} {cap k : Nat} {L R rest rest' : List It} {rc rc2 : Nat} {x : It} (h : GotQ w w1 ob mb a cap k L ra rc R rest) (hlt : ∀ k, Fp ob mb a k → k < w.heap.size)
    (hx : rest[0]? = some x) (hq : Q w2 ob mb a cap rest') (hh : Heap rest') (hp : (rest' ++ [x]).Perm rest) (ho : Only (Fp ob mb a) w1 w2) {o : Obj} (hG : Grew 77 1 (w2.alloc o) w3 ra ra2 1 (R.length + 1) rc rc2 (R.map itv ++ [itv x])) :
    GotQ w w3 ob mb a cap k L ra2 rc2 (R ++ [x]) rest' := by
  have hno : ∀ j, At ra j → ¬ Fp ob mb a j := fun j hj hf => by have := h.new j hj; have := hlt j hf; omega
  have hO : Only (At ra) w2 w3 := Only.trans (S := At ra) ((Only.refl (At ra) w2).alloc o) hG.only (fun _ _ h => h)
  refine ⟨hq.keep hO (fun j hj h => hno j h hj), h.got.step hx hp hh, ⟨?_, by simp⟩, ?_, fun j hj => ?_⟩
  · rw [List.map_append, List.length_append]; exact hG.own
  · refine (h.only.trans ho (fun _ _ h => h)).trans hO (fun j hj h' => ?_)
    have := h.new j h'; omega
  · have h1 := h.only.size
    have h2 := ho.size
    rcases hG.fresh j hj with h' | h'
    · exact h.new j h'
    · have h3 : w2.heap.size + 1 ≤ j := by simpa using h'
      omega

def GetPost (w : World) (ob mb : Nat) (a : Option Addr) (cap k : Nat) (L : List It) (e : Ending) (w' : World) : Prop :=
  ∃ ra rc R rest, e = .returned (.slice ra R.length rc) ∧ R.length = min k L.length ∧ GotQ w w' ob mb a cap k L ra rc R rest

set_option maxRecDepth 100000 in
set_option maxHeartbeats 1600000 in
theorem getQ {w : World} {ob mb : Nat} {a : Option Addr} {cap : Nat} {L : List It} (h : Q w ob mb a cap L) (hh : Heap L) (hl : L.length < 100000) (k : Nat) (hk : k ≤ 1000) :
    Calls Tryd.prog 34 #[.pointer (some ⟨ob, 0, none⟩), .int .i64 (k : Int)] w (GetPost w ob mb a cap k L) := by
  have hmk := make0_eq (P := Tryd.prog) (e := 77) (size := 1) (t := 63) (z := .nilIface) (bytes := 16) .i64 .i64 Tryd.underlying63 (by kernel_rfl) k (by omega) (by omega)
  have HLT := Lib.hid h.lt
  have HG0 : Hid (GotQ w (w.alloc (.cells (madeCells Value.nilIface.cells (k * 1)) 77)) ob mb a cap k L (some ⟨w.heap.size, 0, none⟩) k [] L) := Lib.hid (by
    have hO : Same w (w.alloc (.cells (madeCells Value.nilIface.cells (k * 1)) 77)) := (Only.refl _ _).alloc _
    refine ⟨h.still hO, Got.start hh, ⟨?_, rfl⟩, hO.mono (fun _ _ h => h.elim), fun j hj => by have : w.heap.size = j := hj; omega⟩
    have := Own.of_block (e := 77) (size := 1) (heap_alloc_new w (.cells (madeCells Value.nilIface.cells (k * 1)) 77)) 0 k (Nat.zero_le _) (by unfold maxLen; omega) (by simp [madeCells]) (by simp)
    simpa using this)
  have HG0 : Hid (GotQ w (w.alloc (.cells (madeCells #[Value.nilIface] k) 77)) ob mb a cap k L (some ⟨w.heap.size, 0, none⟩) k [] L) := by rw [Nat.mul_one] at HG0; exact HG0
  have HL := Lib.hid hl
  clear h hh hl
  obtain ⟨n0, HN0⟩ : ∃ n0, Hid (L.length = n0) := ⟨_, Lib.hid rfl⟩
  go_enter Tryd.func34, Tryd.ntmps34
  go_wp2_with fail
  clear hmk
  go_loopw [5, 6] (fun r i wr => ∃ (ra : Option Addr) (rc : Nat) (R rest : List It), r = .slice ra R.length rc ∧ i = .int .i64 (R.length : Int) ∧ R.length ≤ k ∧ Hid (GotQ w wr ob mb a cap k L ra rc R rest)) (fun _ i _ => k - (intOf i).toNat)
  case atStart => exact ⟨_, _, [], L, rfl, rfl, Nat.zero_le _, HG0⟩
  case round =>
    clear HG0
    obtain ⟨ra, rc, R, rest, rfl, rfl, hR, HI⟩ := hrel
    have q0 : wr.cell? ⟨ob, 0, none⟩ = some (.slice a rest.length cap) := block_cell HI.out.q.obj rfl
    have hlen : R.length + rest.length = L.length := by have := HI.out.got.perm.length_eq; rw [List.length_append] at this; exact this
    have HLEN := Lib.hid hlen
    have hbo := HI.out.row.bound
    obtain ⟨m, HM⟩ : ∃ m, Hid (R.length = m) := ⟨_, Lib.hid rfl⟩
    rw [HM.out] at hR hbo ⊢
    by_cases hlt : m < k
    · have hlt' : (m : Int) < (k : Int) := by omega
      by_cases h0 : rest.length = 0
      · have H0 := Lib.hid h0
        rw [h0] at q0
        clear h0 hlen
        go_wp2_with fail
        go_ret
        refine ⟨ra, rc, R, rest, by rw [HM.out]; rfl, ?_, HI.out⟩
        have := HLEN.out; have := H0.out; have := HM.out
        omega
      · have h0' : ¬ (rest.length : Int) = 0 := by omega
        obtain ⟨⟨kx, tx⟩, hx⟩ : ∃ x, rest[0]? = some x := ⟨_, List.getElem?_eq_getElem (by omega)⟩
        have HX := Lib.hid hx
        have HP : Hid (Calls Tryd.prog 42 #[.pointer (some ⟨ob, 0, none⟩)] wr fun e w' => e = .returned (iw kx tx) ∧ ∃ L', Q w' ob mb a cap L' ∧ Heap L' ∧ (L' ++ [(⟨kx, tx⟩ : It)]).Perm rest ∧ Only (Fp ob mb a) wr w') := Lib.hid (popQ HI.out.q HI.out.got.heap (by have := HL.out; omega) hx)
        have hb0 : (rest.length == 0) = false := by simpa using h0
        have hb1 : ((rest.length : Int) == 0) = false := by simpa using h0
        clear h0 hx hlen
        go_wp2_with fail
        refine HP.out.mono ?_
        rintro e w5 ⟨rfl, rest', hq5, hh5, hp5, ho5⟩
        have HX5 : Hid (Q w5 ob mb a cap rest' ∧ Heap rest' ∧ (rest' ++ [(⟨kx, tx⟩ : It)]).Perm rest ∧ Only (Fp ob mb a) wr w5) := Lib.hid ⟨hq5, hh5, hp5, ho5⟩
        have HOW : Hid (OL 77 itv w5 ra m rc R) := Lib.hid (by
          have := HI.out.row.keep ho5 (fun j hj hf => by have := HI.out.new j hj; have := HLT.out j hf; omega)
          rw [HM.out] at this; exact this)
        clear hq5 hh5 hp5 ho5 HP q0 h0' hb0 hb1
        go_wp2_with (at_builtin; refine wpList_append (m + 1) (R.map itv ++ [itv ⟨kx, tx⟩]) rfl _ _ _ _ rfl slI rfl (HOW.out.1.keep (S := fun _ => False) (by repeat (first | exact Only.refl _ _ | apply Only.alloc | apply Only.drew)) (fun _ _ => id)) rfl (Src.row (size := 1) (cs := #[iw kx tx]) (t := 77) (fr := (0, 0)) Tryd.underlying63 (by exact heap_alloc_new _ _) 1 1 rfl (by simp [Value.oneCell'])) rfl rfl (by unfold maxLen; omega) (by omega) ?_)
        intro ra2 rc2 w6 hG
        have HG6 : Hid (GotQ w w6 ob mb a cap k L ra2 rc2 (R ++ [⟨kx, tx⟩]) rest') := Lib.hid (by
          have hG' := hG
          rw [← HM.out] at hG'
          exact HI.out.step HLT.out HX.out HX5.out.1 HX5.out.2.1 HX5.out.2.2.1 HX5.out.2.2.2 hG')
        have HM2 : Hid ((R ++ [(⟨kx, tx⟩ : It)]).length = m + 1) := Lib.hid (by rw [List.length_append, HM.out]; rfl)
        clear hG HOW HX5
        go_wp2_with fail
        go_roundw
        case rel => exact ⟨ra2, rc2, R ++ [⟨kx, tx⟩], rest', by rw [HM2.out], by rw [HM2.out]; go_num, by rw [HM2.out]; omega, HG6⟩
        case measure => simp [intOf]; omega
    · have hlt' : ¬ (m : Int) < (k : Int) := by omega
      clear hlen
      go_wp2_with fail
      go_ret
      refine ⟨ra, rc, R, rest, by rw [HM.out]; rfl, ?_, HI.out⟩
      have := HLEN.out; have := HM.out
      omega
end Go.Proofs.YtpddddjfjmipfaaDoor.pq

/-
  mgItems: a list of structs is taken over as elements behind the interface.
-/
import Derived.Test.YtceonnacpakjhaaMgAbs
namespace Go.Proofs.Ytceonnacpakjhaa.mg
open Go.RowKit Go.Proofs.Ytceonnacpakjhaa.base Go.Proofs.Ytceonnacpakjhaa.heap Go.Proofs.Ytceonnacpakjhaa.rows Go.Proofs.Ytceonnacpakjhaa.pq
set_option linter.unusedVariables false

def itc (x : It) : List Value := [.int .i64 x.key, .int .i64 x.tag]
theorem itc_len (x : It) : (itc x).length = 2 := rfl
theorem itc_one (x : It) : ∀ u ∈ itc x, u.oneCell' = true := by
  intro u hu
  simp only [itc, List.mem_cons, List.not_mem_nil, or_false] at hu
  rcases hu with rfl | rfl <;> rfl
theorem slI : SliceOf Try.prog 34 38 1 16 := SliceOf.mk (z := .nilIface) Try.underlying34 (by kernel_rfl) rfl
theorem slIt : SliceOf Try.prog 22 25 2 16 := SliceOf.mk (z := .agg #[.int .i64 0, .int .i64 0]) Try.underlying22 (by kernel_rfl) rfl
theorem make0 (k : Nat) (hk : k < 1000000) (w : World) : (Instr.makeSlice 34 (.int .i64 0) (.int .i64 (k : Int))).run Try.prog w = .ok (.slice (some ⟨w.heap.size, 0, none⟩) 0 k) (w.alloc (.cells (madeCells (Value.nilIface).cells (k * 1)) 38)) := by
  obtain ⟨i, hi, h1, h2, h3⟩ := info_parts (show (Try.prog.info? 38).map (fun i => (i.zero, i.size, i.bytes)) = some (some .nilIface, 1, 16) by kernel_rfl)
  have h := run_make (P := Try.prog) w 34 38 i .nilIface Try.underlying34 hi h1 .i64 .i64 0 (k : Int) (by omega) (by omega) (by rw [h3]; omega) (by omega)
  rw [h2, Int.toNat_natCast] at h
  exact h
/-- such a row, and that it is new -/
structure Coll (w1 wr : World) (g j lc : Nat) (R : List It) : Prop where
  row : Me wr (some ⟨g, 0, none⟩) j lc R
  same : Same w1 wr
  new : w1.heap.size ≤ g
theorem grew_some {e size : Nat} {w w' : World} {g m N cap cap' : Nat} {a' : Option Addr} {XS : List Value} (h : Grew e size w w' (some ⟨g, 0, none⟩) a' m N cap cap' XS) :
    ∃ g', a' = some ⟨g', 0, none⟩ ∧ (g' = g ∨ w.heap.size ≤ g') := by
  rcases h.own.alt with ⟨h1, _⟩ | ⟨b, cur, h1, _⟩
  · have := (h.nil h1).1
    cases this
  · refine ⟨b, h1, ?_⟩
    rcases h.fresh b (by rw [h1]; rfl) with h2 | h2
    · exact .inl (Eq.symm h2)
    · exact .inr h2
/-- a new list is handed back -/
def NewMe (L : List It) (w : World) (e : Ending) (w' : World) : Prop := ∃ g cap, e = .returned (.slice (some ⟨g, 0, none⟩) L.length cap) ∧ Coll w w' g L.length cap L

set_option maxRecDepth 100000 in
set_option maxHeartbeats 1600000 in
theorem mgItems (a : Option Addr) (n cap : Nat) (L : List It) (w : World) (h : RS itc 2 w a n cap L) (hn : n < 100000) :
    Calls Try.prog 13 #[.slice a n cap] w (NewMe L w) := by
  have hbd := h.bound
  have hl := h.2
  have HR := Lib.hid h
  have HL := Lib.hid hl
  have HM : Hid (∀ wx, (Instr.makeSlice 34 (.int .i64 0) (.int .i64 (n : Int))).run Try.prog wx = .ok (.slice (some ⟨wx.heap.size, 0, none⟩) 0 n) (wx.alloc (.cells (madeCells (Value.nilIface).cells (n * 1)) 38))) := Lib.hid (fun wx => make0 n (by omega) wx)
  have hmk := HM.out w
  obtain ⟨w1, HW1⟩ : ∃ w1, Hid (w.alloc (.cells (madeCells (Value.nilIface).cells (n * 1)) 38) = w1) := ⟨_, Lib.hid rfl⟩
  rw [HW1.out] at hmk
  have HO0 : Hid (Coll w w1 w.heap.size 0 n []) := Lib.hid (by
    rw [← HW1.out]
    refine ⟨⟨?_, rfl⟩, (Only.refl _ _).alloc _, Nat.le_refl _⟩
    have := Own.made 38 1 w (madeCells (Value.nilIface).cells (n * 1)) 0 n (Nat.zero_le _) (by unfold maxLen; omega) (by simp [madeCells]) (by simp)
    simpa using this)
  clear h hl HW1
  go_enter Try.func13, Try.ntmps13
  go_wp2_with fail
  go_loopw [3, 11] (fun l i wr => ∃ (j g lc : Nat), l = .slice (some ⟨g, 0, none⟩) j lc ∧ i = .int .i64 (j : Int) ∧ j ≤ n ∧ Hid (Coll w wr g j lc (L.take j))) (fun _ i _ => n - (intOf i).toNat)
  case atStart => exact ⟨0, _, n, rfl, rfl, Nat.zero_le _, by simpa using HO0⟩
  case round =>
    clear HO0
    obtain ⟨j, g, lc, rfl, rfl, hj, HI⟩ := hrel
    have hbl := HI.out.row.bound
    by_cases hlt : j < n
    · have hlt' : (j : Int) < (n : Int) := by omega
      have HRJ := Lib.hid (HR.out.still HI.out.same)
      obtain ⟨b, off, ha, hb, hc⟩ := HRJ.out.at itc_len (by omega)
      obtain ⟨⟨kx, tx⟩, hx⟩ := HRJ.out.get hlt
      have c0 : wr.cell? ⟨b, off + j * 2, none⟩ = some (.int .i64 kx) := hc j _ hx 0 _ rfl
      have c1 : wr.cell? ⟨b, off + j * 2 + 1, none⟩ = some (.int .i64 tx) := hc j _ hx 1 _ rfl
      have HX := Lib.hid hx
      clear hc hx
      subst ha
      go_wp2_with (at_builtin; refine wpList_append (j + 1) ((L.take j).map itv ++ [itv ⟨kx, tx⟩]) rfl _ _ _ _ rfl slI rfl (HI.out.row.1.keep (S := fun _ => False) (by repeat (first | exact Only.refl _ _ | apply Only.alloc | apply Only.drew)) (fun _ _ => id)) rfl (Src.row (size := 1) (cs := #[iw kx tx]) (t := 38) (fr := (0, 0)) Try.underlying34 (by exact heap_alloc_new' _ _ _ (by simp)) 1 1 rfl (by simp [Value.oneCell'])) rfl rfl (by unfold maxLen; omega) (by omega) ?_)
      intro la2 lc2 w2 hG
      obtain ⟨g2, rfl, hg2⟩ := grew_some hG
      have HI2 : Hid (Coll w w2 g2 (j + 1) lc2 (L.take (j + 1))) := Lib.hid (by
        have hi := HI.out
        have hO : Only (At (some ⟨g, 0, none⟩)) wr w2 := Only.trans (S := At (some ⟨g, 0, none⟩)) (((Only.refl (At _) wr).alloc _).alloc _) hG.only (fun _ _ h => h)
        have hsz := hi.same.size
        refine ⟨⟨?_, ?_⟩, new_only hi.same hO (fun k hk => by cases hk; exact hi.new), ?_⟩
        · rw [take_snoc L j _ HX.out, List.map_append]
          have ho := hG.own
          first | exact ho | (rw [← List.map_take] at ho; exact ho)
        · rw [List.length_take, HR.out.2]; omega
        · rcases hg2 with rfl | h
          · exact hi.new
          · have h3 : wr.heap.size + 1 + 1 ≤ g2 := by simpa using h
            omega)
      clear hG hg2
      go_wp2_with fail
      go_roundw
      case rel => exact ⟨j + 1, g2, lc2, rfl, by go_num, by omega, HI2⟩
      case measure => simp [intOf]; omega
    · have hlt' : ¬ (j : Int) < (n : Int) := by omega
      obtain rfl : j = n := by omega
      have hRt : L.take j = L := List.take_of_length_le (by rw [HL.out]; exact Nat.le_refl _)
      rw [hRt] at HI
      go_wp2_with fail
      go_ret
      refine ⟨g, lc, by rw [HL.out]; rfl, ?_⟩
      rw [HL.out]; exact HI.out
end Go.Proofs.Ytceonnacpakjhaa.mg

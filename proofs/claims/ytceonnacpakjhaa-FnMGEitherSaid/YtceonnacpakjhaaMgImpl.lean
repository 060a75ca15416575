/-
  MGMerge: two sorted lists of structs become one.
-/
import Derived.Test.YtceonnacpakjhaaMgSym
namespace Go.Proofs.Ytceonnacpakjhaa.mg
open Go.RowKit Go.Proofs.Ytceonnacpakjhaa.base Go.Proofs.Ytceonnacpakjhaa.heap Go.Proofs.Ytceonnacpakjhaa.rows Go.Proofs.Ytceonnacpakjhaa.pq
set_option linter.unusedVariables false

/-- a row of structs, and that it is new -/
structure CollS (w1 wr : World) (a : Option Addr) (j lc : Nat) (R : List It) : Prop where
  row : OS 25 itc 2 wr a j lc R
  same : Same w1 wr
  new : ∀ k, At a k → w1.heap.size ≤ k
/-- a sorted list of all the elements is handed back -/
def MmP (U W : List It) (w : World) (e : Ending) (w' : World) : Prop :=
  ∃ a cap L', e = .returned (.slice a L'.length cap) ∧ CollS w w' a L'.length cap L' ∧ Sorted L' ∧ L'.Perm (U ++ W)

set_option maxRecDepth 100000 in
set_option maxHeartbeats 3200000 in
theorem mgMerge (au aw : Option Addr) (nu nw cu cw : Nat) (U W : List It) (w : World) (hU : RS itc 2 w au nu cu U) (hW : RS itc 2 w aw nw cw W) (su : Sorted U) (sw : Sorted W) (h4 : nu ≤ 60) (h5 : nw ≤ 60) :
    Calls Try.prog 6 #[.slice au nu cu, .slice aw nw cw] w (MmP U W w) := by
  have HX := Lib.hid (And.intro (And.intro hU hW) (And.intro su sw))
  have HM1 := Lib.hid (mgItems au nu cu U w hU (by omega))
  have HB := Lib.hid (And.intro h4 h5)
  clear hU hW su sw h4 h5
  go_enter Try.func6, Try.ntmps6
  go_wp2_with (go_at_call 13; with_reducible refine HM1.out.mono ?_)
  rintro e w1 h3
  obtain ⟨gu, ku, rfl, hu⟩ : ∃ g cap, e = .returned (.slice (some ⟨g, 0, none⟩) U.length cap) ∧ Coll w w1 g U.length cap U := h3
  have HM2 := Lib.hid (mgItems aw nw cw W w1 (HX.out.1.2.still hu.same) (by have := HB.out; omega))
  have HU := Lib.hid hu
  clear hu HM1
  go_wp2_with (go_at_call 13; with_reducible refine HM2.out.mono ?_)
  rintro e w2 h3
  obtain ⟨gw, kw, rfl, hw⟩ : ∃ g cap, e = .returned (.slice (some ⟨g, 0, none⟩) W.length cap) ∧ Coll w1 w2 g W.length cap W := h3
  have HM3 := Lib.hid (symM gu gw U.length W.length ku kw U W w2 (OL.still HU.out.row hw.same) hw.row HX.out.2.1 HX.out.2.2 (by have := HX.out.1.1.2; have := HB.out; omega) (by have := HX.out.1.2.2; have := HB.out; omega))
  have HW := Lib.hid hw
  clear hw HM2
  go_wp2_with (go_at_call 12; with_reducible refine HM3.out.mono ?_)
  rintro e w3 h3
  obtain ⟨a, cap, L, rfl, hr, hso, hpm, hO⟩ : ∃ a cap L', e = .returned (.slice a L'.length cap) ∧ RL itv w3 a L'.length cap L' ∧ Sorted L' ∧ L'.Perm (U ++ W) ∧ Only (S2b gu gw) w2 w3 := h3
  have HS3 : Hid (Same w w3) := Lib.hid (new_only (HU.out.same.trans HW.out.same) hO (fun k hk => by
    have := HU.out.new; have := HW.out.new; have := HU.out.same.size
    rcases hk with rfl | rfl <;> omega))
  have HR := Lib.hid hr
  have HL := Lib.hid (And.intro hso hpm)
  obtain ⟨n, hn⟩ : ∃ n, L.length = n := ⟨_, rfl⟩
  have HN := Lib.hid hn
  have hnb : n ≤ 120 := by have := hpm.length_eq; rw [List.length_append, HX.out.1.1.2, HX.out.1.2.2] at this; have := HB.out; omega
  rw [hn] at HR ⊢
  have hbd := HR.out.bound
  clear hr hso hpm hO HM3 hn
  go_wp2_with fail
  go_loopw [5, 14] (fun l i wr => ∃ (j : Nat) (la : Option Addr) (lc : Nat), l = .slice la j lc ∧ i = .int .i64 (j : Int) ∧ j ≤ n ∧ Hid (CollS w3 wr la j lc (L.take j))) (fun _ i _ => n - (intOf i).toNat)
  case atStart => exact ⟨0, none, 0, rfl, rfl, Nat.zero_le _, Lib.hid ⟨by simpa using OS.nil _ itc 2 w3, Only.refl _ _, fun k hk => hk.elim⟩⟩
  case round =>
    obtain ⟨j, la, lc, rfl, rfl, hj, HI⟩ := hrel
    have hbl := HI.out.row.bound
    by_cases hlt : j < n
    · have hlt' : (j : Int) < (n : Int) := by omega
      obtain ⟨b, off, ha, hb, hc⟩ := (HR.out.still HI.out.same).at (by omega)
      obtain ⟨⟨kx, tx⟩, hx⟩ := HR.out.get hlt
      have c0 : wr.cell? ⟨b, off + j, none⟩ = some (iw kx tx) := hc j _ hx
      have HX2 := Lib.hid hx
      have q1 := asserted kx tx
      have q2 := run_f1 kx tx
      clear hc hx
      subst ha
      go_wp2_with (at_builtin; refine wpList_append (j + 1) ((L.take j).flatMap itc ++ itc ⟨kx, tx⟩) rfl _ _ _ _ rfl slIt rfl (HI.out.row.1.keep (S := fun _ => False) (by repeat (first | exact Only.refl _ _ | apply Only.alloc | apply Only.drew)) (fun _ _ => id)) rfl (Src.row (size := 2) (cs := #[.int .i64 kx, .int .i64 tx]) (t := 25) (fr := (0, 0)) Try.underlying22 (by exact heap_alloc_new' _ _ _ (by simp)) 1 1 rfl (by simp [Value.oneCell'])) rfl rfl (by unfold maxLen; omega) (by omega) ?_)
      intro la2 lc2 w4 hG
      have HI2 : Hid (CollS w3 w4 la2 (j + 1) lc2 (L.take (j + 1))) := Lib.hid (by
        have hi := HI.out
        have hO : Only (At la) wr w4 := Only.trans (S := At la) ((Only.refl (At la) wr).alloc _) hG.only (fun _ _ h => h)
        have hsz := hi.same.size
        refine ⟨⟨?_, ?_⟩, new_only hi.same hO hi.new, fun k hk => ?_⟩
        · rw [take_snoc L j _ HX2.out, flat_snoc]
          exact hG.own
        · rw [List.length_take, HN.out]; omega
        · rcases hG.fresh k hk with h | h
          · exact hi.new k h
          · have h3 : wr.heap.size + 1 ≤ k := by simpa using h
            omega)
      clear hG
      go_wp2_with fail
      go_roundw
      case rel => exact ⟨j + 1, la2, lc2, rfl, by go_num, by omega, HI2⟩
      case measure => simp [intOf]; omega
    · have hlt' : ¬ (j : Int) < (n : Int) := by omega
      obtain rfl : j = n := by omega
      have hRt : L.take j = L := List.take_of_length_le (by rw [HN.out]; exact Nat.le_refl _)
      rw [hRt] at HI
      go_wp2_with fail
      go_ret
      refine ⟨la, lc, L, by rw [HN.out]; rfl, ?_, HL.out.1, HL.out.2⟩
      rw [HN.out]
      exact ⟨HI.out.row, HS3.out.trans HI.out.same, fun k hk => by have := HI.out.new k hk; have := HS3.out.size; omega⟩
end Go.Proofs.Ytceonnacpakjhaa.mg

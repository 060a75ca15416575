/-
  fhPut, fhPast: the walks.
-/
import Derived.Test.YtpddddjfjmipfaaFhPast
namespace Go.Proofs.Ytpddddjfjmipfaa.fh
open Go.ChangeShapes Go.WideShapes Go.ChangeAt Go.RowKit Go.Proofs.Ytpddddjfjmipfaa.base Go.Proofs.Ytpddddjfjmipfaa.heap Go.Proofs.Ytpddddjfjmipfaa.rows Go.Proofs.Ytpddddjfjmipfaa.flt
set_option linter.unusedVariables false

/-- a new list of steps -/
structure Nws (w wr : World) (sa : Option Addr) (n sc : Nat) (L : List Stp) : Prop where
  row : OS 31 stc 4 wr sa n sc L
  same : Same w wr
  new : ∀ j, At sa j → w.heap.size ≤ j
theorem Nws.nil (w : World) : Nws w w none 0 0 [] := ⟨OS.nil _ _ _ _, Only.refl _ _, fun j hj => hj.elim⟩
theorem Nws.grew {w wr w1 w2 : World} {sa sa2 : Option Addr} {n sc sc2 k : Nat} {L N : List Stp} (h : Nws w wr sa n sc L) (h1 : Same wr w1) (hk : N.length = k) (hG : Grew 31 4 w1 w2 sa sa2 k (n + k) sc sc2 (L.flatMap stc ++ N.flatMap stc)) : Nws w w2 sa2 (n + k) sc2 (L ++ N) := by
  have z0 := h.same.size
  have z1 := h1.size
  have hO : Only (At sa) wr w2 := Only.trans (S := At sa) (h1.mono (fun _ _ f => f.elim)) hG.only (fun _ _ h => h)
  refine ⟨⟨by rw [List.flatMap_append]; exact hG.own, by rw [List.length_append, h.row.2, hk]⟩, new_only h.same hO h.new, fun j hj => ?_⟩
  rcases hG.fresh j hj with h' | h'
  · exact h.new j h'
  · omega
def PutP (n : Nat) (l : List Int) (w : World) (e : Ending) (w' : World) : Prop := ∃ a' c', e = .returned (.slice a' n c') ∧ Nws w w' a' n c' (l.map sPut)
set_option maxRecDepth 100000 in
set_option maxHeartbeats 1600000 in
theorem fhPut (a : Option Addr) (n cap : Nat) (l : List Int) (w : World) (h : RL iv w a n cap l) (hn : n ≤ 1000) : Calls Try.prog 20 #[.slice a n cap] w (PutP n l w) := by
  have HR := Lib.hid h
  have hbd := h.bound
  have HI0 : Hid (Nws w w none 0 0 ((l.take 0).map sPut)) := Lib.hid (Nws.nil w)
  clear h
  go_enter Try.func20, Try.ntmps20
  go_wp2_with fail
  go_loopw [3, 8] (fun s i wr => ∃ (j : Nat) (sa : Option Addr) (sc : Nat), s = .slice sa j sc ∧ i = .int .i64 (j : Int) ∧ j ≤ n ∧ Hid (Nws w wr sa j sc ((l.take j).map sPut))) (fun _ i _ => n - (intOf i).toNat)
  case atStart => exact ⟨0, none, 0, rfl, rfl, Nat.zero_le _, HI0⟩
  case round =>
    clear HI0
    obtain ⟨j, sa, sc, rfl, rfl, hj, HI⟩ := hrel
    have hbs := HI.out.row.bound
    by_cases hlt : j < n
    · have hlt' : (j : Int) < (n : Int) := by omega
      obtain ⟨p, hp⟩ := HR.out.get hlt
      obtain ⟨b, off, rfl, hb, hc⟩ := (HR.out.still HI.out.same).at (by omega)
      have c0 : wr.cell? ⟨b, off + j, none⟩ = some (.int .i64 p) := hc j p hp
      have HPJ := Lib.hid hp
      obtain ⟨XS, HXS⟩ : ∃ XS, Hid (((l.take j).map sPut).flatMap stc ++ [sPut p].flatMap stc = XS) := ⟨_, Lib.hid rfl⟩
      clear hc hp
      go_wp2_with (at_builtin; refine wpList_append (j + 1) XS rfl _ _ _ _ rfl slSt rfl (HI.out.row.1.keep (S := fun _ => False) (by repeat (first | exact Only.refl _ _ | apply Only.alloc | apply Only.drew)) (fun _ _ => id)) rfl (Src.row (size := 4) (cs := #[.int .i64 1, .int .i64 0, .int .i64 p, .slice none 0 0]) (t := 31) (fr := (0, 0)) Try.underlying22 (by exact heap_alloc_new _ _) 1 1 rfl (by simp [Value.oneCell'])) rfl HXS.out (by unfold maxLen; omega) (by omega) ?_)
      intro sa2 sc2 w2 hG
      have HI2 : Hid (Nws w w2 sa2 (j + 1) sc2 ((l.take (j + 1)).map sPut)) := Lib.hid (by
        have := HI.out.grew (N := [sPut p]) ((Only.refl _ _).alloc _) rfl (by rw [HXS.out]; exact hG)
        rw [take_snoc l j p HPJ.out, List.map_append]
        exact this)
      clear hG HI
      go_wp2_with fail
      go_roundw
      case rel => exact ⟨j + 1, sa2, sc2, rfl, by go_num, by omega, HI2⟩
      case measure => simp [intOf]; omega
    · have hlt' : ¬ (j : Int) < (n : Int) := by omega
      obtain rfl : j = n := by omega
      go_wp2_with fail
      go_ret
      have := HI.out
      rw [List.take_of_length_le (by rw [HR.out.2]; exact Nat.le_refl _)] at this
      exact ⟨sa, sc, rfl, this⟩
/-- how many lesser ones are put in first -/
def low (f : Nat) : Nat := 1 + f % 5
def PastP (n f : Nat) (l : List Int) (w : World) (e : Ending) (w' : World) : Prop := ∃ a' c', e = .returned (.tuple #[.slice a' (low f + n + low f) c', .int .i64 (low f : Int)]) ∧ Nws w w' a' (low f + n + low f) c' (past (low f) l)
set_option maxRecDepth 100000 in
set_option maxHeartbeats 3200000 in
theorem fhPast (a : Option Addr) (n cap f : Nat) (l : List Int) (w : World) (h : RL iv w a n cap l) (hn : n ≤ 100) (hf : f < 256) : Calls Try.prog 11 #[.slice a n cap, .int .u8 (f : Int)] w (PastP n f l w) := by
  have HR := Lib.hid h
  have hbd := h.bound
  have hr : Int.tmod (f : Int) 5 = ((f % 5 : Nat) : Int) := rfl
  obtain ⟨r, hrr⟩ : ∃ r, f % 5 = r := ⟨_, rfl⟩
  have hr5 : r < 5 := by omega
  have HLR : Hid (low f = 1 + r) := Lib.hid (by unfold low; rw [hrr])
  rw [hrr] at hr
  have HI0 : Hid (Nws w w none 0 0 (List.replicate 0 (sPut lowP))) := Lib.hid (Nws.nil w)
  clear h hrr
  go_enter Try.func11, Try.ntmps11
  go_wp2_with fail
  obtain ⟨g, hg⟩ : ∃ g : Nat, (1 : Int) + (r : Int) = (g : Int) := ⟨1 + r, by omega⟩
  have HG : Hid (low f = g) := Lib.hid (by have := HLR.out; omega)
  have hg5 : g ≤ 5 := by omega
  rw [hg]
  clear hg hr HLR
  go_loopw [7, 13] (fun s i wr => ∃ (j k : Nat) (sa : Option Addr) (sc : Nat), s = .slice sa k sc ∧ i = .int .i64 (j : Int) ∧ j ≤ g ∧ Hid (k = j) ∧ Hid (Nws w wr sa k sc (List.replicate j (sPut lowP)))) (fun _ i _ => g - (intOf i).toNat)
  case atStart => exact ⟨0, 0, none, 0, rfl, rfl, Nat.zero_le _, Lib.hid rfl, HI0⟩
  case round =>
    clear HI0
    obtain ⟨j, k, sa, sc, rfl, rfl, hj, HK, HI⟩ := hrel
    have hbs := HI.out.row.bound
    have hkb : k ≤ 5 := by have := HK.out; omega
    by_cases hlt : j < g
    · have hlt' : (j : Int) < (g : Int) := by omega
      obtain ⟨XS, HXS⟩ : ∃ XS, Hid ((List.replicate j (sPut lowP)).flatMap stc ++ [sPut lowP].flatMap stc = XS) := ⟨_, Lib.hid rfl⟩
      go_wp2_with (at_builtin; refine wpList_append (k + 1) XS rfl _ _ _ _ rfl slSt rfl (HI.out.row.1.keep (S := fun _ => False) (by repeat (first | exact Only.refl _ _ | apply Only.alloc | apply Only.drew)) (fun _ _ => id)) rfl (Src.row (size := 4) (cs := #[.int .i64 1, .int .i64 0, .int .i64 (-1099511627776), .slice none 0 0]) (t := 31) (fr := (0, 0)) Try.underlying22 (by exact heap_alloc_new _ _) 1 1 rfl (by simp [Value.oneCell'])) rfl HXS.out (by unfold maxLen; omega) (by omega) ?_)
      intro sa2 sc2 w2 hG
      have HI2 : Hid (Nws w w2 sa2 (k + 1) sc2 (List.replicate (j + 1) (sPut lowP))) := Lib.hid (by
        have := HI.out.grew (N := [sPut lowP]) ((Only.refl _ _).alloc _) rfl (by rw [HXS.out]; exact hG)
        rw [← List.replicate_succ'] at this
        exact this)
      have HK2 : Hid (k + 1 = j + 1) := Lib.hid (by rw [HK.out])
      clear hG HI HK
      go_wp2_with fail
      go_roundw
      case rel => exact ⟨j + 1, k + 1, sa2, sc2, rfl, by go_num, by omega, HK2, HI2⟩
      case measure => simp [intOf]; omega
    · have hlt' : ¬ (j : Int) < (g : Int) := by omega
      obtain rfl : j = g := by omega
      have HPUT : Hid (Calls Try.prog 20 #[.slice a n cap] wr (PutP n l wr)) := Lib.hid (fhPut a n cap l wr (HR.out.still HI.out.same) (by omega))
      go_wp2_with fail
      refine HPUT.out.mono ?_
      rintro e w3 ⟨pa, pc, rfl, hN⟩
      have HN := Lib.hid hN
      have HI3 : Hid (Nws w w3 sa k sc (List.replicate j (sPut lowP))) := Lib.hid ⟨HI.out.row.still hN.same, HI.out.same.trans hN.same, HI.out.new⟩
      obtain ⟨XS, HXS⟩ : ∃ XS, Hid ((List.replicate j (sPut lowP)).flatMap stc ++ (l.map sPut).flatMap stc = XS) := ⟨_, Lib.hid rfl⟩
      have hbp := hN.row.bound
      clear hN HI HPUT
      go_wp2_with (at_builtin; refine wpList_append (k + n) XS rfl _ _ _ _ rfl slSt rfl HI3.out.row.1 rfl (HN.out.row.1.rd.src Try.underlying22) rfl HXS.out (by unfold maxLen; omega) (by omega) ?_)
      intro sa2 sc2 w4 hG
      have HI4 : Hid (Nws w w4 sa2 (k + n) sc2 (past1 j l)) := Lib.hid (HI3.out.grew (N := l.map sPut) (Only.refl _ _) HN.out.row.2 (by rw [HXS.out]; exact hG))
      obtain ⟨k1, hk1⟩ : ∃ k1, k + n = k1 := ⟨_, rfl⟩
      have HK1 : Hid (k1 = j + n + 0) := Lib.hid (by have := HK.out; omega)
      rw [hk1] at HI4 ⊢
      have hk1b : k1 ≤ 105 := by omega
      clear hG HI3 HN hk1 HXS
      have HI5 : Hid (Nws w w4 sa2 k1 sc2 (past1 j l ++ List.replicate 0 sDeq)) := Lib.hid (by simpa using HI4.out)
      obtain ⟨g, hgj⟩ : ∃ g, j = g := ⟨_, rfl⟩
      subst hgj
      go_wp2_with fail
      go_loopw [7, 25] (fun s i wr => ∃ (q k : Nat) (sa : Option Addr) (sc : Nat), s = .slice sa k sc ∧ i = .int .i64 (q : Int) ∧ q ≤ j ∧ Hid (k = j + n + q) ∧ Hid (Nws w wr sa k sc (past1 j l ++ List.replicate q sDeq))) (fun _ i _ => j - (intOf i).toNat)
      case atStart => exact ⟨0, k1, sa2, sc2, rfl, rfl, Nat.zero_le _, HK1, HI5⟩
      case round =>
        clear HI5 HI4 HK1
        obtain ⟨q, k3, sa3, sc3, rfl, rfl, hq, HK3, HI⟩ := hrel
        have hbs3 := HI.out.row.bound
        have hk3b : k3 ≤ 200 := by have := HK3.out; omega
        by_cases hlq : q < j
        · have hlq' : (q : Int) < (j : Int) := by omega
          obtain ⟨XS, HXS⟩ : ∃ XS, Hid ((past1 j l ++ List.replicate q sDeq).flatMap stc ++ [sDeq].flatMap stc = XS) := ⟨_, Lib.hid rfl⟩
          go_wp2_with (at_builtin; refine wpList_append (k3 + 1) XS rfl _ _ _ _ rfl slSt rfl (HI.out.row.1.keep (S := fun _ => False) (by repeat (first | exact Only.refl _ _ | apply Only.alloc | apply Only.drew)) (fun _ _ => id)) rfl (Src.row (size := 4) (cs := #[.int .i64 3, .int .i64 0, .int .i64 0, .slice none 0 0]) (t := 31) (fr := (0, 0)) Try.underlying22 (by exact heap_alloc_new _ _) 1 1 rfl (by simp [Value.oneCell'])) rfl HXS.out (by unfold maxLen; omega) (by omega) ?_)
          intro sa4 sc4 w6 hG
          have HI2 : Hid (Nws w w6 sa4 (k3 + 1) sc4 (past1 j l ++ List.replicate (q + 1) sDeq)) := Lib.hid (by
            have := HI.out.grew (N := [sDeq]) ((Only.refl _ _).alloc _) rfl (by rw [HXS.out]; exact hG)
            rw [List.append_assoc, ← List.replicate_succ'] at this
            exact this)
          have HK4 : Hid (k3 + 1 = j + n + (q + 1)) := Lib.hid (by have := HK3.out; omega)
          clear hG HI HK3
          go_wp2_with fail
          go_roundw
          case rel => exact ⟨q + 1, k3 + 1, sa4, sc4, rfl, by go_num, by omega, HK4, HI2⟩
          case measure => simp [intOf]; omega
        · have hlq' : ¬ (q : Int) < (j : Int) := by omega
          obtain rfl : q = j := by omega
          go_wp2_with fail
          go_ret2
          exact ⟨sa3, sc3, by rw [HG.out, ← HK3.out]; rfl, by rw [HG.out, ← HK3.out]; exact HI.out⟩
end Go.Proofs.Ytpddddjfjmipfaa.fh

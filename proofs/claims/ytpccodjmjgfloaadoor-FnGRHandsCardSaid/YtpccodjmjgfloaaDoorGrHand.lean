/-
  GRDegree, GRAdj of the thin package; slices.Contains.
-/
import Derived.Test.YtpccodjmjgfloaaDoorGrAdj
namespace Go.Proofs.YtpccodjmjgfloaaDoor.gr
open Go.RowKit Go.Proofs.YtpccodjmjgfloaaDoor.base Go.Proofs.YtpccodjmjgfloaaDoor.heap Go.Proofs.YtpccodjmjgfloaaDoor.rows Go.Proofs.YtpccodjmjgfloaaDoor.mapi
set_option linter.unusedVariables false

theorem nbrs_le (S : Sh) (v : Int) : (nbrs S v).length ≤ total S := by
  induction S with
  | nil => exact Nat.zero_le _
  | cons s S ih =>
    unfold nbrs at *
    rw [List.find?_cons]
    unfold total at *
    simp only [List.map_cons, List.sum_cons]
    cases v == s.1
    · simp only; omega
    · simp only [Option.map_some, Option.getD_some]; omega
theorem G.ok.nbrs_nodup {g : G} {w : World} (h : g.ok w) (v : Int) : (nbrs (sh g.A) v).Nodup := by
  cases hf : g.A.find? (fun a => v == a.k) with
  | none => rw [nbrs_no hf]; exact List.nodup_nil
  | some a =>
    rw [nbrs_sh hf]
    have := (h.adj a (find_mem hf).1).nodup
    rwa [ul_keys] at this

set_option maxHeartbeats 800000 in
theorem grDegree (a : Option Addr) (n cap : Nat) (l : List Ed) (v : Int) (a0 a1 a2 : Addr) (w : World) (h : RE w a n cap l) (hn : n ≤ 100) (hE : Errs w a0 a1 a2) (hEf : ∀ k, errFoot a0 a1 a2 k → k < w.heap.size) :
    Calls Tryd.prog 8 #[.slice a n cap, .int .i64 v] w (FV w (.tuple #[.int .i64 ((nbrs (tOf l).S v).length : Int), .int .i64 (vErr (tOf l).S v : Int)])) := by
  have HG := Lib.hid (grOf a n cap l a0 a1 a2 w h hn hE hEf)
  have HE := Lib.hid hE
  clear h hE hEf
  go_enter Tryd.func8, Tryd.ntmps8
  go_wp2_with fail
  refine HG.out.mono ?_
  rintro e w1 ⟨g, ea, ec, rfl, hok, hsh, hge, hes, hS, _⟩
  have HD := Lib.hid (degree g v a0 a1 a2 w1 hok (HE.out.still hS))
  rw [hsh] at HD
  have HO1 := Lib.hid hS
  have hle : vErr (tOf l).S v ≤ 3 := by unfold vErr; split <;> omega
  clear hok hsh hge hes hS HG
  generalize (nbrs (tOf l).S v).length = z1 at *
  generalize vErr (tOf l).S v = z2 at *
  go_wp2_with fail
  refine HD.out.mono ?_
  rintro e w2 ⟨rfl, hS2⟩
  have HGR := Lib.hid (grError a0 a1 a2 z2 hle w2 (HE.out.still (HO1.out.trans hS2)))
  have HO2 := Lib.hid (HO1.out.trans hS2)
  clear hS2 HD
  generalize errV a0 a1 a2 z2 = ev at *
  go_wp2_with fail
  refine HGR.out.mono ?_
  rintro e w3 ⟨rfl, rfl⟩
  go_wp2_with fail
  go_ret2
  exact ⟨rfl, HO2.out⟩

theorem asserted (x : Int) (w : World) : (Instr.typeAssert (ai x) 20 3 false).run Tryd.prog w = .ok (iv x) w := by
  simp [Instr.typeAssert, run_underlying Tryd.underlying3, Result.andThen]

def AdjI (S : Sh) (v : Int) (w : World) (e : Ending) (w' : World) : Prop :=
  ∃ a c F, e = .returned (.tuple #[.slice a (nbrs S v).length c, .int .i64 (vErr S v : Int)]) ∧ RL iv w' a (nbrs S v).length c F ∧ F.Perm (nbrs S v) ∧ Same w w'

set_option maxRecDepth 100000 in
set_option maxHeartbeats 1600000 in
theorem grAdj (a : Option Addr) (n cap : Nat) (l : List Ed) (v : Int) (a0 a1 a2 : Addr) (w : World) (h : RE w a n cap l) (hn : n ≤ 100) (hE : Errs w a0 a1 a2) (hEf : ∀ k, errFoot a0 a1 a2 k → k < w.heap.size) :
    Calls Tryd.prog 10 #[.slice a n cap, .int .i64 v] w (AdjI (tOf l).S v w) := by
  have HG := Lib.hid (grOf a n cap l a0 a1 a2 w h hn hE hEf)
  have HE := Lib.hid hE
  have hbz : (nbrs (tOf l).S v).length ≤ 100000 := by
    have h1 := nbrs_le (tOf l).S v
    have h2 := (good l).total
    have h3 := tOf_len l l.length (Nat.le_refl _)
    rw [List.take_length] at h3
    have h4 := h.2
    omega
  clear h hE hEf
  go_enter Tryd.func10, Tryd.ntmps10
  go_wp2_with fail
  refine HG.out.mono ?_
  rintro e w1 ⟨g, ea, ec, rfl, hok, hsh, hge, hes, hS, _⟩
  have HD := Lib.hid (adj g v a0 a1 a2 w1 hok (HE.out.still hS) (by rw [hsh]; exact hbz) (hok.nbrs_nodup v))
  rw [hsh] at HD
  have HO1 := Lib.hid hS
  have hle : vErr (tOf l).S v ≤ 3 := by unfold vErr; split <;> omega
  clear hok hsh hge hes hS HG
  have HAI : Hid (∀ (e : Ending) (w' : World) a c F, e = .returned (.tuple #[.slice a (nbrs (tOf l).S v).length c, .int .i64 (vErr (tOf l).S v : Int)]) → RL iv w' a (nbrs (tOf l).S v).length c F → F.Perm (nbrs (tOf l).S v) → Same w w' → AdjI (tOf l).S v w e w') := Lib.hid (fun e w' a c F h1 h2 h3 h4 => ⟨a, c, F, h1, h2, h3, h4⟩)
  have HPT : Hid (∀ F : List Int, F.Perm (nbrs (tOf l).S v) → F.length = (nbrs (tOf l).S v).length) := Lib.hid (fun F hF => hF.length_eq)
  unfold Adjs at HD
  generalize hks : nbrs (tOf l).S v = ks at *
  obtain ⟨z1, hz1⟩ : ∃ z1, z1 = ks.length := ⟨_, rfl⟩
  rw [← hz1] at HD HAI HPT hbz
  generalize vErr (tOf l).S v = z2 at *
  clear hks
  go_wp2_with fail
  refine HD.out.mono ?_
  rintro e w2 ⟨aa, ac, F, rfl, hF, hp, hS2⟩
  have hba := hF.bound
  have HF := Lib.hid hF
  have HP := Lib.hid hp
  have HGR : Hid (∀ wx, Same w2 wx → Calls Tryd.prog 16 #[errV a0 a1 a2 z2] wx fun e w' => e = .returned (.int .i64 (z2 : Int)) ∧ wx = w') := Lib.hid (fun wx hx => grError a0 a1 a2 z2 hle wx (HE.out.still (HO1.out.trans (hS2.trans hx))))
  have HO2 := Lib.hid (HO1.out.trans hS2)
  clear hF hp hS2 HD hz1
  generalize errV a0 a1 a2 z2 = ev at *
  go_wp2_with fail
  go_loopw [4, 11, 26] (fun out _ i wr => ∃ (k : Nat) (oa : Option Addr) (oc : Nat), k ≤ z1 ∧ i = .int .i64 (k : Int) ∧ out = .slice oa k oc ∧ OL 3 iv wr oa k oc (F.take k) ∧ Same w2 wr ∧ ∀ j, At oa j → w2.heap.size ≤ j) (fun _ _ i _ => z1 - (intOf i).toNat)
  case atStart => exact ⟨0, none, 0, Nat.zero_le _, rfl, rfl, OL.nil _ _ _, Only.refl _ _, fun j hj => hj.elim⟩
  case round =>
    obtain ⟨k, oa, oc, hk, rfl, rfl, hown, hO, hfr⟩ := hrel
    have hbo := hown.bound
    have HOWN := Lib.hid hown
    have HO := Lib.hid hO
    have HFR := Lib.hid hfr
    clear hown hO hfr
    by_cases hlt : k < z1
    · have hlt' : (k : Int) < (z1 : Int) := by omega
      obtain ⟨b, off, rfl, hb, hc⟩ := (HF.out.still HO.out).at (by omega)
      obtain ⟨x, hx⟩ := HF.out.get hlt
      have c0 := hc k x hx
      have HX := Lib.hid hx
      have hta := asserted x
      clear hc hx
      go_wp2_with (at_builtin; refine wpList_append (k + 1) ((F.take k).map iv ++ [iv x]) rfl _ _ _ _ rfl slI rfl (HOWN.out.1.keep (S := fun j => j = wr.heap.size) (by repeat (first | exact Only.refl _ _ | apply Only.alloc | refine Only.setCell ?_ _ _ (fun _ => rfl))) (fun j hj e => by have := HOWN.out.1.lt j hj; omega)) rfl (Src.row (size := 1) (cs := #[.int .i64 x]) (t := 3) (fr := (0, 0)) Tryd.underlying23 (heap_alloc_new' _ _ _ (by simp)) 1 1 rfl (by simp [Value.oneCell'])) rfl rfl (by unfold maxLen; omega) (by omega) ?_)
      intro a'' cap'' w3 hG
      have HG : Hid (OL 3 iv w3 a'' (k + 1) cap'' (F.take (k + 1))) := Lib.hid ⟨by have := hG.own; rw [take_snoc F k x HX.out, List.map_append, List.map_take]; exact this, by rw [List.length_take, HF.out.2]; omega⟩
      have HO3 : Hid (Same w2 w3) := Lib.hid (Only.trans (S := fun _ => False) (T := At oa) (by repeat (first | exact HO.out | apply Only.alloc)) hG.only (fun j hj h => by have := HFR.out j h; omega))
      have HF3 : Hid (∀ j, At a'' j → w2.heap.size ≤ j) := Lib.hid (fun j hj => by
        rcases hG.fresh j hj with h | h
        · exact HFR.out j h
        · have := HO.out.size; simp at h; omega)
      clear hG
      go_wp2_with fail
      go_roundw
      case rel => exact ⟨k + 1, a'', cap'', by omega, by go_num, rfl, HG.out, HO3.out, HF3.out⟩
      case measure => simp [intOf]; omega
    · obtain rfl : k = z1 := by omega
      rw [List.take_of_length_le (by rw [HF.out.2]; exact Nat.le_refl _)] at HOWN
      have HGRr := Lib.hid (HGR.out wr HO.out)
      go_wp2_with fail
      refine HGRr.out.mono ?_
      rintro e w3 ⟨rfl, rfl⟩
      go_wp2_with fail
      go_ret2
      exact HAI.out _ _ oa oc F rfl HOWN.out.rl HP.out (HO2.out.trans HO.out)

set_option maxHeartbeats 400000 in
theorem indexS (a : Option Addr) (n cap : Nat) (l : List Int) (x : Int) (w : World) (h : RL iv w a n cap l) :
    Calls Tryd.prog 17 #[.slice a n cap, .int .i64 x] w fun e w' => ∃ i : Int, e = .returned (.int .i64 i) ∧ (0 ≤ i ↔ x ∈ l) ∧ w = w' := by
  have hbd := h.bound
  have HR := Lib.hid h
  have HL := Lib.hid h.2
  clear h
  go_enter Tryd.func17, Tryd.ntmps17
  go_wp2
  go_loop [5, 8] (fun _ i => ∃ k : Nat, k ≤ n ∧ i = .int .i64 (k : Int) ∧ Hid (x ∉ l.take k)) (fun _ i => n - (intOf i).toNat)
  case atStart => exact ⟨0, Nat.zero_le _, rfl, Lib.hid (by simp)⟩
  case round =>
    obtain ⟨k, hk, rfl, HN⟩ := hrel
    by_cases hlt : k < n
    · have hlt' : (k : Int) < (n : Int) := by omega
      have hk0 : (0 : Int) ≤ (k : Int) := by omega
      obtain ⟨b, off, rfl, hb, hc⟩ := HR.out.at (by omega)
      obtain ⟨y, hy⟩ := HR.out.get hlt
      have c0 := hc k y hy
      have HY := Lib.hid hy
      clear hc hy
      by_cases hxy : x = y
      · subst hxy
        have HM : Hid ((0 : Int) ≤ (k : Int) ↔ x ∈ l) := Lib.hid ⟨fun _ => List.mem_of_getElem? HY.out, fun _ => hk0⟩
        go_wp2
        go_ret
        exact ⟨_, rfl, HM.out, rfl⟩
      · have HN' : Hid (x ∉ l.take (k + 1)) := Lib.hid (by
          rw [take_snoc l k y HY.out, List.mem_append]
          rintro (h | h)
          · exact HN.out h
          · exact hxy (by simpa using h))
        go_wp2
        go_round
        case rel => exact ⟨k + 1, by omega, by go_num, HN'⟩
        case measure => simp [intOf]; omega
    · obtain rfl : k = n := by omega
      have HM : Hid ((0 : Int) ≤ -1 ↔ x ∈ l) := Lib.hid ⟨fun h => absurd h (by decide), fun h => absurd h (by have := HN.out; rwa [List.take_of_length_le (by rw [HL.out]; exact Nat.le_refl _)] at this)⟩
      go_wp2
      go_ret
      exact ⟨_, rfl, HM.out, rfl⟩
set_option maxHeartbeats 400000 in
theorem containsS (a : Option Addr) (n cap : Nat) (l : List Int) (x : Int) (w : World) (h : RL iv w a n cap l) :
    Calls Tryd.prog 9 #[.slice a n cap, .int .i64 x] w fun e w' => e = .returned (.bool (decide (x ∈ l))) ∧ w = w' := by
  have HI := Lib.hid (indexS a n cap l x w h)
  have hbd := h.bound
  clear h
  go_enter Tryd.func9, Tryd.ntmps9
  go_wp2_with fail
  refine HI.out.mono ?_
  rintro e w1 ⟨i, rfl, hi, rfl⟩
  have HI2 : Hid (decide (0 ≤ i) = decide (x ∈ l)) := Lib.hid (decide_eq_decide.2 hi)
  clear hi HI
  go_wp2_with fail
  go_ret
  exact ⟨by rw [← HI2.out]; rfl, rfl⟩
end Go.Proofs.YtpccodjmjgfloaaDoor.gr

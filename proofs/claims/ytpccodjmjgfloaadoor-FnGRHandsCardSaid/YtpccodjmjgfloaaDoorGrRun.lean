/-
  GRRun of the thin package; slices.Equal on equal lists; a parameter that is a list of edges.
-/
import Derived.Test.YtpccodjmjgfloaaDoorGrPlain
import Derived.BigQuiet
import Derived.Deep.SlicePairs
namespace Go.Proofs.YtpccodjmjgfloaaDoor.gr
open Go.ChangeShapes Go.WideShapes Go.ChangeAt Go.RowKit Go.Proofs.YtpccodjmjgfloaaDoor.base Go.Proofs.YtpccodjmjgfloaaDoor.heap Go.Proofs.YtpccodjmjgfloaaDoor.rows Go.Proofs.YtpccodjmjgfloaaDoor.mapi
set_option linter.unusedVariables false

theorem gV (g : G) (w : World) (hok : g.ok w) : Calls Tryd.prog 12 #[.pointer (some ⟨g.p, 0, none⟩)] w fun e w' => e = .returned (.int .i64 (g.A.length : Int)) ∧ w = w' := by
  have c : w.cell? ⟨g.p, 1, none⟩ = some (.int .i64 (g.A.length : Int)) := block_cell hok.obj rfl
  clear hok
  go_enter Tryd.func12, Tryd.ntmps12
  go_wp2
  go_ret
  exact ⟨rfl, rfl⟩
theorem gE (g : G) (w : World) (hok : g.ok w) : Calls Tryd.prog 13 #[.pointer (some ⟨g.p, 0, none⟩)] w fun e w' => e = .returned (.int .i64 (g.e : Int)) ∧ w = w' := by
  have c : w.cell? ⟨g.p, 2, none⟩ = some (.int .i64 (g.e : Int)) := block_cell hok.obj rfl
  clear hok
  go_enter Tryd.func13, Tryd.ntmps13
  go_wp2
  go_ret
  exact ⟨rfl, rfl⟩

def Ran (t : T) (n : Nat) (w : World) (e : Ending) (w' : World) : Prop :=
  ∃ ea ec, e = .returned (.tuple #[.slice ea n ec, .int .i64 (t.S.length : Int), .int .i64 (t.e : Int)]) ∧ OL 3 iv w' ea n ec t.es ∧ Same w w'

set_option maxHeartbeats 800000 in
theorem grRun (a : Option Addr) (n cap : Nat) (l : List Ed) (a0 a1 a2 : Addr) (w : World) (h : RE w a n cap l) (hn : n ≤ 100) (hE : Errs w a0 a1 a2) (hEf : ∀ k, errFoot a0 a1 a2 k → k < w.heap.size) :
    Calls Tryd.prog 5 #[.slice a n cap] w (Ran (tOf l) n w) := by
  have HG := Lib.hid (grOf a n cap l a0 a1 a2 w h hn hE hEf)
  clear h hE hEf
  go_enter Tryd.func5, Tryd.ntmps5
  go_wp2_with fail
  refine HG.out.mono ?_
  rintro e w1 ⟨g, ea, ec, rfl, hok, hsh, hge, hes, hS, _⟩
  have HV := Lib.hid (gV g w1 hok)
  have HEd := Lib.hid (gE g w1 hok)
  have hlen : g.A.length = (tOf l).S.length := by rw [← hsh]; simp [sh]
  rw [hlen] at HV
  rw [hge] at HEd
  have HFIN : Hid (Ran (tOf l) n w (.returned (.tuple #[.slice ea n ec, .int .i64 ((tOf l).S.length : Int), .int .i64 ((tOf l).e : Int)])) w1) := Lib.hid ⟨ea, ec, rfl, hes, hS⟩
  clear hok hsh hge hes hS hlen HG
  generalize (tOf l).S.length = z1 at *
  generalize (tOf l).e = z2 at *
  go_wp2_with fail
  refine HV.out.mono ?_
  rintro e w2 ⟨rfl, rfl⟩
  go_wp2_with fail
  refine HEd.out.mono ?_
  rintro e w2 ⟨rfl, rfl⟩
  go_wp2_with fail
  go_ret3
  exact HFIN.out

set_option maxHeartbeats 800000 in
theorem equalS (a : Option Addr) (n cap : Nat) (b : Option Addr) (c2 : Nat) (l : List Int) (w : World) (h : RL iv w a n cap l) (h2 : RL iv w b n c2 l) :
    Calls Tryd.prog 7 #[.slice a n cap, .slice b n c2] w (FV w (.bool true)) := by
  have hbd := h.bound
  have hbd2 := h2.bound
  have HR := Lib.hid h
  have HR2 := Lib.hid h2
  clear h h2
  go_enter Tryd.func7, Tryd.ntmps7
  go_wp2_with fail
  go_loopw [5, 13] (fun _ i wr => ∃ k : Nat, k ≤ n ∧ i = .int .i64 (k : Int) ∧ Same w wr) (fun _ i _ => n - (intOf i).toNat)
  case atStart => exact ⟨0, Nat.zero_le _, rfl, Only.refl _ _⟩
  case round =>
    obtain ⟨k, hk, rfl, hO⟩ := hrel
    have HO := Lib.hid hO
    clear hO
    by_cases hlt : k < n
    · have hlt' : (k : Int) < (n : Int) := by omega
      have hk0 : (0 : Int) ≤ (k : Int) := by omega
      obtain ⟨b1, o1, rfl, hb1, hc1⟩ := (HR.out.still HO.out).at (by omega)
      obtain ⟨b2, o2, rfl, hb2, hc2⟩ := (HR2.out.still HO.out).at (by omega)
      obtain ⟨x, hx⟩ := HR.out.get hlt
      have c1 := hc1 k x hx
      have c2 := hc2 k x hx
      clear hc1 hc2 hx
      go_wp2
      go_quiet (fail)
      go_wp2
      go_roundw
      case rel => exact ⟨k + 1, by omega, by go_num, by repeat (first | exact HO.out | apply Only.drewN | apply Only.drew)⟩
      case measure => simp [intOf]; omega
    · obtain rfl : k = n := by omega
      go_wp2_with fail
      go_ret
      exact ⟨rfl, HO.out⟩

theorem list_of (n : Nat) (p : Nat → Ed → Prop) (h : ∀ i, i < n → ∃ s, p i s) : ∃ l : List Ed, l.length = n ∧ ∀ i s, l[i]? = some s → p i s := by
  induction n with
  | zero => exact ⟨[], rfl, fun i s h => by simp at h⟩
  | succ n ih =>
    obtain ⟨l, hl, hp⟩ := ih (fun i hi => h i (by omega))
    obtain ⟨s, hs⟩ := h n (by omega)
    refine ⟨l ++ [s], by simp [hl], fun i t ht => ?_⟩
    by_cases hi : i < n
    · rw [List.getElem?_append_left (by omega)] at ht
      exact hp i t ht
    · rw [List.getElem?_append_right (by omega)] at ht
      by_cases e : i = n
      · subst e
        rw [hl, Nat.sub_self] at ht
        simp at ht
        subst ht
        exact hs
      · rw [List.getElem?_eq_none (by simp; omega)] at ht
        cases ht

set_option maxRecDepth 100000 in
theorem read_edges {W : World} {v : Value} (h : Reads Tryd.prog W 22 v) : ∃ (a : Option Addr) (n cap : Nat) (l : List Ed), v = .slice a n cap ∧ RE W a n cap l := by
  obtain ⟨base, H, enc, d, ps, hv, fuel, hf⟩ := h
  obtain ⟨a, n, cap, rfl⟩ := okWide_slice Tryd.underlying22 hv
  rcases Go.Deep.open_slice_pairs Tryd.underlying22 Tryd.underlying33 (by kernel_rfl) rfl rfl (by kernel_rfl) (by kernel_rfl) (by simpa [Value.cells] using hf) with ⟨hcs, _⟩ | ⟨x, len, c, m, k, V0, V1, D0, D1, P0, P1, hcs, _, hl, hm, hmm, _, hall⟩
  · simp at hcs
    obtain ⟨rfl, rfl, rfl⟩ := hcs
    exact ⟨none, 0, 0, [], rfl, ⟨Rd.nil W 2, rfl⟩⟩
  · simp at hcs
    obtain ⟨rfl, rfl, rfl⟩ := hcs
    have hlm : n ≤ m := by rw [hmm]; split <;> omega
    obtain ⟨l, hll, hp⟩ := list_of n (fun i s => W.cell? (x.add (i * 2)) = some (iv s.1) ∧ W.cell? (x.add (i * 2 + 1)) = some (iv s.2)) (fun i hi => by
      obtain ⟨h0, h1, t0, t1⟩ := hall i (by omega)
      obtain ⟨z, hz, _, _⟩ := DataW.trod_int Tryd.underlying3 t0
      obtain ⟨y, hy, _, _⟩ := DataW.trod_int Tryd.underlying3 t1
      simp at hz hy
      exact ⟨(z, y), by rw [h0, hz], by rw [h1, hy]⟩)
    refine ⟨some x, n, cap, l, rfl, ⟨⟨by rw [edc_len, hll], hl, hm, edc_one l, fun h0 => ?_, fun h => by cases h⟩, hll⟩⟩
    obtain ⟨b, off, spot⟩ := x
    obtain ⟨s0, hs0⟩ : ∃ s, l[0]? = some s := ⟨l[0]'(by omega), List.getElem?_eq_getElem _⟩
    have h1 := (hp 0 s0 hs0).1
    have hsp : spot = none := by simpa [Addr.add] using World.cell?_spot h1
    subst hsp
    have h2 : W.cell? ⟨b, off, none⟩ = some (iv s0.1) := by simpa [Addr.add] using h1
    refine ⟨b, off, rfl, World.block_lt_of_cell? W _ h2, fun j v hj => ?_⟩
    have hjl : j < (l.flatMap edc).length := (List.getElem?_eq_some_iff.1 hj).1
    rw [edc_len] at hjl
    obtain ⟨s, hs⟩ : ∃ s, l[j / 2]? = some s := ⟨l[j / 2]'(by omega), List.getElem?_eq_getElem _⟩
    obtain ⟨q1, q2⟩ := edc_get l (j / 2) s hs
    obtain ⟨p1, p2⟩ := hp (j / 2) s hs
    rw [Addr.add_lit] at p1 p2
    rcases (show j = j / 2 * 2 ∨ j = j / 2 * 2 + 1 by omega) with e | e
    · rw [e, q1] at hj
      cases hj
      rw [e, p1]
    · rw [e, q2] at hj
      cases hj
      rw [e, p2]
end Go.Proofs.YtpccodjmjgfloaaDoor.gr

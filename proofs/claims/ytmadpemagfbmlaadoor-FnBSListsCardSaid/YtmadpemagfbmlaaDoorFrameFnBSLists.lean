/-
  The frame of the proof of 'FnBSLists', out of its walk: the row lists a table of the library, and the card ties it. Written by a program of mine after the kit's worked examples.
-/
import Derived.Test.YtmadpemagfbmlaaDoorRows
import Derived.Test.YtmadpemagfbmlaaDoorTie
import Derived.Test.YtmadpemagfbmlaaDoorCards
import Derived.Test.YtmadpemagfbmlaaDoorWalkFnBSLists
import Derived.WalkKit
import Derived.ProofKit
import Derived.LaidMore
import Derived.OpenShut
import Derived.ShutString
import Derived.ChangeOld
import Derived.Below
import Derived.Stop.Joined
import Derived.SevenTiedAt
namespace Go.Proofs.YtmadpemagfbmlaaDoor.fnBSLists
open Go.ChangeShapes Go.WideShapes Go.ChangeAt Go.RowKit Go.Proofs.YtmadpemagfbmlaaDoor.bs
set_option linter.unusedVariables false

theorem own : ownKnob Tryd.prog.godebug = none := by kernel_rfl
theorem laidOut : laidOutB Tryd.prog = true := by kernel_rfl
theorem gTab : Tryd.prog.globalNamed "math/bits.deBruijn64tab" = some 0 := by kernel_rfl
theorem tTab : (Tryd.prog.globals[0]?).map (·.type) = some 53 := by kernel_rfl
theorem cE : Tryd.prog.cellsOf 5 = 1 := by kernel_rfl

/-- the table, as the condition lists it -/
theorem tab_list : (Rows.laid_math_bits_deBruijn64tab : DataW Unit) = .agg (deB.map fun n : Nat => .lit (.int .u8 (n : Int))) := by kernel_rfl
theorem tab_of_laid {W : World} (h : laidMetH Tryd.prog Rows.fnBSListsRow.laid W) : Tab W := by
  rw [MakeChecks.laidMetH_plain _ _ _ (by kernel_rfl)] at h
  obtain ⟨ps, ⟨g, t, cs, fuel, p, q, hg, ht, hv, hd, _, _⟩, _⟩ := h
  obtain rfl := Option.some.inj (gTab.symm.trans hg)
  obtain rfl := Option.some.inj (tTab.symm.trans ht)
  obtain ⟨xs, m1, rfl, hx1, hlen, hn, hel⟩ := DataW.trod_array Tryd.underlying53 hd
  rw [tab_list] at hx1
  simp only [Prod.mk.injEq, DataW.agg.injEq] at hx1
  intro i hi
  have h0 := hel i hi
  rw [cE, Nat.mul_one] at h0
  have hxi : xs[i]? = some (xs[i]'(by omega)) := List.getElem?_eq_getElem (by omega)
  rw [hxi] at h0
  obtain ⟨k, e1, e2, _⟩ := DataW.trod_int Tryd.underlying5 h0
  have hk : k = (deB.getD i 0 : Nat) := by
    have h3 := congrArg (fun l => l[i]?) hx1.1
    simp only [List.getElem?_map, hxi, Option.map_some, e2] at h3
    have hdb : deB[i]? = some (deB.getD i 0) := by
      have : i < deB.length := by show i < 64; exact hi
      simp [this]
    rw [hdb] at h3
    simp only [Option.map_some, Option.some.injEq, DataW.lit.injEq, Lit.int.injEq] at h3
    exact h3.2.symm
  have h4 := World.var?_cell hg hv i
  rw [h4]
  have h5 : cs.toList[i]? = some (.int .u8 k) := by
    have h6 := congrArg (fun l => l[0]?) e1
    simpa [List.getElem?_take, List.getElem?_drop] using h6
  rw [← Array.getElem?_toList, h5, hk]

theorem door_met (os : Os) (args : Array Value) : laidMetH Tryd.prog Rows.fnBSListsRow.laid ((World.doorLaid Tryd.prog 400 os).forCall (fun _ _ => 0) ⟨#[], args, []⟩).memory :=
  laidMetH_of_parts3 (fuel := 8) (laidMet_of_run' 8 (by kernel_rfl) (by kernel_rfl)) (by kernel_rfl) (by kernel_rfl)

set_option maxRecDepth 100000 in
theorem lifted (os : Os) (started : os.Started) (H : Type) (enc : TypeId × Value → H) :
    ReturnsInHanded {} Tryd.checked os 3 .any (fun w args => (Rows.fnBSListsSpec.pre enc Tryd.prog Tryd.f3 [] false w args ∧ laidMetH Tryd.prog Rows.fnBSListsRow.laid w) ∧ sizedMet enc Tryd.prog Tryd.f3 (OpenSpec.ofChange Rows.fnBSListsSpec) false w args)
      (Rows.fnBSListsSpec.post enc Tryd.prog Tryd.f3 false true false false) := by
  refine returnsInHanded_of_change_and (C := Tryd.checked) (X := fun w _ => laidMetH Tryd.prog Rows.fnBSListsRow.laid w) (fun _ _ _ hh h => h.of_heap hh) own started (by kernel_rfl) Tryd.func3
    (ChangeSpec.witness_shaped (enc := enc) (C := Tryd.checked) (os := os) (X := fun w _ => laidMetH Tryd.prog Rows.fnBSListsRow.laid w) false (World.doorLaid Tryd.prog 400 os) #[.agg #[.int .u64 0, .slice none 0 0], .int .u16 0, .int .u8 0, .slice none 0 0] 8 rfl (World.shaped_of_RefB (by kernel_rfl) (by kernel_rfl)) (by kernel_rfl) (by kernel_rfl) (by kernel_rfl) (door_met os _)) ?_
  intro W base args ds gs before hval0 hW _ _ hL _
  have hval : ∀ (j : Nat) t v, Tryd.f3.params[j]? = some t → args[j]? = some v → Value.okWide Tryd.prog W .any base t v := hval0
  have hW' := hW
  obtain ⟨p, q, hA0, hV, rfl, hfz, hnd⟩ := hW
  have hA : DataW.TrodAll enc Tryd.prog W 0 (fun _ => true) true Tryd.f3.params.toList args.toList ds p := hA0
  rw [Tryd.params3] at hA hval
  obtain ⟨v0, vs0, d0, ds0, p0, q0, hargs, rfl, rfl, h0, r0⟩ := trodAll_cons hA
  obtain ⟨v1, vs1, d1, ds1, p1, q1, rfl, rfl, rfl, h1, r1⟩ := trodAll_cons r0
  obtain ⟨v2, vs2, d2, ds2, p2, q2, rfl, rfl, rfl, h2, r2⟩ := trodAll_cons r1
  obtain ⟨v3, vs3, d3, ds3, p3, q3, rfl, rfl, rfl, h3, r3⟩ := trodAll_cons r2
  obtain ⟨rfl, rfl, rfl⟩ := trodAll_nil r3
  obtain rfl : args = #[v0, v1, v2, v3] := by cases args; simp_all
  obtain ⟨rfl, rfl⟩ := trodVars_none hV
  have lt0 : ∀ x ∈ p0, x.block < W.heap.size := by obtain ⟨m, hm⟩ := h0; exact DataW.trod_lt m _ _ _ hm
  have lt1 : ∀ x ∈ p1, x.block < W.heap.size := by obtain ⟨m, hm⟩ := h1; exact DataW.trod_lt m _ _ _ hm
  have lt2 : ∀ x ∈ p2, x.block < W.heap.size := by obtain ⟨m, hm⟩ := h2; exact DataW.trod_lt m _ _ _ hm
  have lt3 : ∀ x ∈ p3, x.block < W.heap.size := by obtain ⟨m, hm⟩ := h3; exact DataW.trod_lt m _ _ _ hm
  clear hA0 hval0
  refine (Go.Proofs.YtmadpemagfbmlaaDoor.walkFnBSLists.walk W v0 v1 v2 v3 ⟨base, H, enc, d0, p0, hval 0 25 v0 rfl rfl, h0⟩ ⟨base, H, enc, d1, p1, hval 1 26 v1 rfl rfl, h1⟩ ⟨base, H, enc, d2, p2, hval 2 5 v2 rfl rfl, h2⟩ ⟨base, H, enc, d3, p3, hval 3 23 v3 rfl rfl, h3⟩ (tab_of_laid hL)).mono fun e W' ⟨he, bel⟩ => ?_
  subst he
  exact ⟨_, rfl, _, _, _, [], _, [], hW', trodAll_mk1 (shut_bool Tryd.underlying4 _), (trodAll_cons_mk (Below.trod laidOut (by kernel_rfl) (of_decide_eq_true (by kernel_rfl)) h0 bel lt0) (trodAll_cons_mk (Below.trod laidOut (by kernel_rfl) (of_decide_eq_true (by kernel_rfl)) h1 bel lt1) (trodAll_cons_mk (Below.trod laidOut (by kernel_rfl) (of_decide_eq_true (by kernel_rfl)) h2 bel lt2) (trodAll_cons_mk (Below.trod laidOut (by kernel_rfl) (of_decide_eq_true (by kernel_rfl)) h3 bel lt3) trodAll_mk0)))), rfl, bel.frame _, fun h => by cases h⟩

theorem over : Rows.fnBSListsRow.holds Tryd.pinned (OpenSpec.ofChange Rows.fnBSListsSpec) :=
  OpenClaim.holds_of_wide 3 Tryd.f3 rfl rfl rfl rfl rfl rfl rfl ⟨rfl, rfl, rfl, rfl, rfl⟩ rfl rfl rfl rfl rfl (by kernel_rfl) Tryd.func3 (by kernel_rfl)
    (of_decide_eq_true (by kernel_rfl)) (by unfold Func.isWrapper; first | (rw [if_pos (by decide +kernel)]; kernel_rfl) | (rw [if_neg (by decide +kernel)]; exact ⟨rfl, rfl⟩))
    (fun os started H enc _ => lifted os started H enc)

theorem proved : Rows.FnBSListsCardSaid :=
  Claim7.holds_tied_plain_at .later [] [.data] true (true, "eec694bc87e7dfbd0a94855aacb0cc93b1c75b8cf9aaf9a99e4ed714e34ed7bf") false
    over (fun _ h => by cases h) (by kernel_rfl) (fun _ h => by cases h) fnBSLists_row_tie rfl ⟨rfl, rfl⟩ (by kernel_rfl) rfl
    (fun f fn hf hfn => by
      obtain rfl : f = 3 := Option.some.inj ((show Tryd.prog.funcNamed "given.example/pub-lumberyard/laws.FnBSLists" = some 3 by kernel_rfl).symm.trans hf) |>.symm
      obtain rfl : fn = Tryd.f3 := (Option.some.inj (Tryd.func3.symm.trans hfn)).symm
      exact ⟨by kernel_rfl, fun j t ht => by
        rw [Tryd.params3] at ht
        have hm : t ∈ [25, 26, 5, 23] := by simpa using Array.mem_of_getElem? ht
        have hall : ([25, 26, 5, 23].all fun u => !Tryd.prog.wantsStandIn u) = true := by kernel_rfl
        exact (show Tryd.prog.wantsStandIn t = false by simpa using List.all_eq_true.1 hall t hm)⟩)
    (by kernel_rfl)
end Go.Proofs.YtmadpemagfbmlaaDoor.fnBSLists

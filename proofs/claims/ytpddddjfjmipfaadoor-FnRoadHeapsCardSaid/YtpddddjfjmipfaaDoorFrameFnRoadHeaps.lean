/-
  The frame of the proof of 'FnRoadHeaps', out of its walk: the row lists error variables, and the card ties them. Written by a program of mine after the kit's worked examples.
-/
import Derived.Test.YtpddddjfjmipfaaDoorRows
import Derived.Test.YtpddddjfjmipfaaDoorTie
import Derived.Test.YtpddddjfjmipfaaDoorCards
import Derived.Test.YtpddddjfjmipfaaDoorWalkFnRoadHeaps
import Derived.WalkKit
import Derived.ProofKit
import Derived.LaidMore
import Derived.OpenShut
import Derived.ShutString
import Derived.ChangeOld
import Derived.ChangeSame
import Derived.ChangeVars
import Derived.RowKitTokens
import Derived.LaidLaws
import Derived.Below
import Derived.Stop.Joined
import Derived.Stop.ErrReads
import Derived.SevenTiedAt
namespace Go.Proofs.YtpddddjfjmipfaaDoor.fnRoadHeaps
open Go.ChangeShapes Go.WideShapes Go.ChangeAt Go.RowKit
set_option linter.unusedVariables false

theorem own : ownKnob Tryd.prog.godebug = none := by kernel_rfl
theorem laidOut : laidOutB Tryd.prog = true := by kernel_rfl
abbrev n0 : String := "given.example/pub-lumberyard/pub/godatastructures/queue.ErrDisposed"
theorem g0 : Tryd.prog.globalNamed n0 = some 0 := by kernel_rfl
theorem t0 : (Tryd.prog.globals[0]?).map (·.type) = some 72 := by kernel_rfl
abbrev n1 : String := "given.example/pub-lumberyard/pub/godatastructures/queue.ErrTimeout"
theorem g1 : Tryd.prog.globalNamed n1 = some 1 := by kernel_rfl
theorem t1 : (Tryd.prog.globals[1]?).map (·.type) = some 72 := by kernel_rfl
abbrev n2 : String := "given.example/pub-lumberyard/pub/godatastructures/queue.ErrEmptyQueue"
theorem g2 : Tryd.prog.globalNamed n2 = some 2 := by kernel_rfl
theorem t2 : (Tryd.prog.globals[2]?).map (·.type) = some 72 := by kernel_rfl
theorem cellsS : Tryd.prog.cellsOf 113 = 1 := by kernel_rfl
theorem cellsStr : Tryd.prog.cellsOf 9 = 1 := by kernel_rfl
theorem star : "*" ++ "errors.errorString" = "*errors.errorString" := by decide
/-- no other type has the name of the errors' type -/
theorem rowP (u : TypeId) (h : Tryd.prog.typeName? 3 u = some "*errors.errorString") : u = 111 :=
  typeName_ptr_named (nm := "errors.errorString") (by rw [star]; kernel_rfl) (by kernel_rfl) (by decide) u (by rw [star]; exact h)

set_option maxRecDepth 100000 in
theorem vars_of_laid {W : World} (h : laidMetH Tryd.prog Rows.fnRoadHeapsRow.laid W) : ∃ x0 x1 x2 : Value, (W.var? Tryd.prog n0 = some #[x0] ∧ IsIface x0) ∧ (W.var? Tryd.prog n1 = some #[x1] ∧ IsIface x1) ∧ (W.var? Tryd.prog n2 = some #[x2] ∧ IsIface x2) := by
  rw [MakeChecks.laidMetH_plain _ _ _ (by kernel_rfl)] at h
  obtain ⟨ps, ⟨k0, u0, cs0, f0, p0, q0, hg0, ht0, hv0, hd0, ⟨k1, u1, cs1, f1, p1, q1, hg1, ht1, hv1, hd1, ⟨k2, u2, cs2, f2, p2, q2, hg2, ht2, hv2, hd2, hq, e2⟩, e1⟩, e0⟩, hnd, hrows⟩ := h
  obtain rfl := Option.some.inj (g0.symm.trans hg0)
  obtain rfl := Option.some.inj (g1.symm.trans hg1)
  obtain rfl := Option.some.inj (g2.symm.trans hg2)
  obtain rfl := Option.some.inj (t0.symm.trans ht0)
  obtain rfl := Option.some.inj (t1.symm.trans ht1)
  obtain rfl := Option.some.inj (t2.symm.trans ht2)
  have hq' : q2 = [] := hq
  subst hq'
  subst e2
  subst e1
  subst e0
  obtain ⟨l0⟩ := cs0
  obtain ⟨l1⟩ := cs1
  obtain ⟨l2⟩ := cs2
  have ok0 : ∀ u v, l0 = [.iface u v] → Value.okWide Tryd.prog W .any 0 u v := fun u v e => by
    subst e
    exact (hrows 0 0 (by simp [MemPlace.row])).2 u v (by simpa using World.var?_cell hg0 hv0 0)
  have ok1 : ∀ u v, l1 = [.iface u v] → Value.okWide Tryd.prog W .any 0 u v := fun u v e => by
    subst e
    exact (hrows 1 0 (by simp [MemPlace.row])).2 u v (by simpa using World.var?_cell hg1 hv1 0)
  have ok2 : ∀ u v, l2 = [.iface u v] → Value.okWide Tryd.prog W .any 0 u v := fun u v e => by
    subst e
    exact (hrows 2 0 (by simp [MemPlace.row])).2 u v (by simpa using World.var?_cell hg2 hv2 0)
  obtain ⟨a0, s0, rfl, hc0, hs0, hz0, rfl⟩ := errorString_of_trod Tryd.underlying72 rowP Tryd.underlying111 Tryd.underlying113 rfl rfl Tryd.underlying9 cellsS cellsStr hd0 ok0
  obtain ⟨a1, s1, rfl, hc1, hs1, hz1, rfl⟩ := errorString_of_trod Tryd.underlying72 rowP Tryd.underlying111 Tryd.underlying113 rfl rfl Tryd.underlying9 cellsS cellsStr hd1 ok1
  obtain ⟨a2, s2, rfl, hc2, hs2, hz2, rfl⟩ := errorString_of_trod Tryd.underlying72 rowP Tryd.underlying111 Tryd.underlying113 rfl rfl Tryd.underlying9 cellsS cellsStr hd2 ok2
  exact ⟨_, _, _, ⟨hv0, trivial⟩, ⟨hv1, trivial⟩, ⟨hv2, trivial⟩⟩

/-- a variable's value stays -/
theorem var_below {W W' : World} {nm : String} {k : Nat} {cs : Array Value} (hk : Tryd.prog.globalNamed nm = some k) (h : W.var? Tryd.prog nm = some cs) (b : Below W.heap.size W W') : W'.var? Tryd.prog nm = some cs := by
  unfold World.var? at h ⊢
  simp only [hk, Option.bind_some] at h ⊢
  have hlt : k < W.heap.size := by
    rcases Nat.lt_or_ge k W.heap.size with h' | h'
    · exact h'
    · simp [Array.getElem?_eq_none h'] at h
  rw [b.block k hlt]
  exact h
theorem vars_read {H : Type} (enc : TypeId × Value → H) {W : World} {x0 x1 x2 : Value} (h0 : W.var? Tryd.prog n0 = some #[x0]) (h1 : W.var? Tryd.prog n1 = some #[x1]) (h2 : W.var? Tryd.prog n2 = some #[x2]) (i0 : IsIface x0) (i1 : IsIface x1) (i2 : IsIface x2) (sp : Nat → Bool) :
    DataW.TrodVars enc Tryd.prog W sp [n0, n1, n2] [tok enc x0, tok enc x1, tok enc x2] [.cell 0 0, .cell 1 0, .cell 2 0] :=
  ⟨0, 72, #[x0], 1, [], [.cell 1 0, .cell 2 0], g0, t0, h0, trod_held Tryd.underlying72 i0 0, ⟨1, 72, #[x1], 1, [], [.cell 2 0], g1, t1, h1, trod_held Tryd.underlying72 i1 0, ⟨2, 72, #[x2], 1, [], [], g2, t2, h2, trod_held Tryd.underlying72 i2 0, rfl, rfl⟩, rfl⟩, rfl⟩

theorem door_met (os : Os) (args : Array Value) : laidMetH Tryd.prog Rows.fnRoadHeapsRow.laid ((World.doorLaid Tryd.prog 400 os).forCall (fun _ _ => 0) ⟨#[], args, []⟩).memory :=
  laidMetH_of_parts3 (fuel := 8) (laidMet_of_run' 8 (by kernel_rfl) (by kernel_rfl)) (by kernel_rfl) (by kernel_rfl)

set_option maxRecDepth 100000 in
theorem lifted (os : Os) (started : os.Started) (H : Type) (enc : TypeId × Value → H) :
    ReturnsInHanded {} Tryd.checked os 3 .any (fun w args => (Rows.fnRoadHeapsSpec.pre enc Tryd.prog Tryd.f3 [] false w args ∧ laidMetH Tryd.prog Rows.fnRoadHeapsRow.laid w) ∧ sizedMet enc Tryd.prog Tryd.f3 (OpenSpec.ofChange Rows.fnRoadHeapsSpec) false w args)
      (Rows.fnRoadHeapsSpec.post enc Tryd.prog Tryd.f3 false true false false) := by
  refine returnsInHanded_of_change_and (C := Tryd.checked) (X := fun w _ => laidMetH Tryd.prog Rows.fnRoadHeapsRow.laid w) (fun _ _ _ hh h => h.of_heap hh) own started (by kernel_rfl) Tryd.func3
    (ChangeSpec.witness_shaped (enc := enc) (C := Tryd.checked) (os := os) (X := fun w _ => laidMetH Tryd.prog Rows.fnRoadHeapsRow.laid w) false (World.doorLaid Tryd.prog 400 os) #[.slice none 0 0] 8 rfl (World.shaped_of_RefB (by kernel_rfl) (by kernel_rfl)) (by kernel_rfl) (by kernel_rfl) (by kernel_rfl) (door_met os _)) ?_
  intro W base args ds gs before hval0 hW _ _ hL _
  have hval : ∀ (j : Nat) t v, Tryd.f3.params[j]? = some t → args[j]? = some v → Value.okWide Tryd.prog W .any base t v := hval0
  have hW' := hW
  obtain ⟨p, q, hA0, hV0, rfl, hfz, hnd⟩ := hW
  have hA : DataW.TrodAll enc Tryd.prog W 0 (fun _ => true) true Tryd.f3.params.toList args.toList ds p := hA0
  have hV : DataW.TrodVars enc Tryd.prog W (fun _ => true) [n0, n1, n2] gs q := hV0
  rw [Tryd.params3] at hA hval
  obtain ⟨v0, vs0, d0, ds0, p0, q0, hargs, rfl, rfl, h0, r0⟩ := trodAll_cons hA
  obtain ⟨rfl, rfl, rfl⟩ := trodAll_nil r0
  obtain rfl : args = #[v0] := by cases args; simp_all
  obtain ⟨x0, x1, x2, ⟨hv0, hi0⟩, ⟨hv1, hi1⟩, ⟨hv2, hi2⟩⟩ := vars_of_laid hL
  obtain ⟨rfl, rfl⟩ := hV.unique (vars_read enc hv0 hv1 hv2 hi0 hi1 hi2 _)
  have lt0 : ∀ x ∈ p0, x.block < W.heap.size := by obtain ⟨m, hm⟩ := h0; exact DataW.trod_lt m _ _ _ hm
  clear hA0 hval0 hV0
  refine (Go.Proofs.YtpddddjfjmipfaaDoor.walkFnRoadHeaps.walk W v0 ⟨base, H, enc, d0, p0, hval 0 22 v0 rfl rfl, h0⟩).mono fun e W' ⟨he, bel⟩ => ?_
  subst he
  exact ⟨_, rfl, _, _, _, [], _, [.cell 0 0, .cell 1 0, .cell 2 0], hW', trodAll_mk1 (shut_bool Tryd.underlying4 _), (trodAll_cons_mk (Below.trod laidOut (by kernel_rfl) (of_decide_eq_true (by kernel_rfl)) h0 bel lt0) trodAll_mk0),
    vars_read enc (var_below g0 hv0 bel) (var_below g1 hv1 bel) (var_below g2 hv2 bel) hi0 hi1 hi2 _, bel.frame _, fun h => by cases h⟩

theorem over : Rows.fnRoadHeapsRow.holds Tryd.pinned (OpenSpec.ofChange Rows.fnRoadHeapsSpec) :=
  OpenClaim.holds_of_wide 3 Tryd.f3 rfl rfl rfl rfl rfl rfl rfl ⟨rfl, rfl, rfl, rfl, rfl⟩ rfl rfl rfl rfl rfl (by kernel_rfl) Tryd.func3 (by kernel_rfl)
    (of_decide_eq_true (by kernel_rfl)) (by unfold Func.isWrapper; first | (rw [if_pos (by decide +kernel)]; kernel_rfl) | (rw [if_neg (by decide +kernel)]; exact ⟨rfl, rfl⟩))
    (fun os started H enc _ => lifted os started H enc)

theorem proved : Rows.FnRoadHeapsCardSaid :=
  Claim7.holds_tied_plain_at .later [] [.sentinel, .sentinel, .sentinel] true (true, "11ab9d612143f127cac1973a3bacf45f67260369f3f632d0b37f1e294b0966d0") true
    over (fun _ h => by cases h) (by kernel_rfl) (fun _ h => by cases h) fnRoadHeaps_row_tie rfl ⟨rfl, rfl⟩ (by kernel_rfl) rfl
    (fun f fn hf hfn => by
      obtain rfl : f = 3 := Option.some.inj ((show Tryd.prog.funcNamed "given.example/pub-lumberyard/laws.FnRoadHeaps" = some 3 by kernel_rfl).symm.trans hf) |>.symm
      obtain rfl : fn = Tryd.f3 := (Option.some.inj (Tryd.func3.symm.trans hfn)).symm
      exact ⟨by kernel_rfl, fun j t ht => by
        rw [Tryd.params3] at ht
        have hm : t ∈ [22] := by simpa using Array.mem_of_getElem? ht
        have hall : ([22].all fun u => !Tryd.prog.wantsStandIn u) = true := by kernel_rfl
        exact (show Tryd.prog.wantsStandIn t = false by simpa using List.all_eq_true.1 hall t hm)⟩)
    (by kernel_rfl)
end Go.Proofs.YtpddddjfjmipfaaDoor.fnRoadHeaps

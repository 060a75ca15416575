/-
  The frame of the proof of 'FnYFTurned', out of its walk: the row lists a table of the library, and the card ties it. Written by a program of mine after the kit's worked examples.
-/
import Derived.Test.YtcjifjfcjimefaaDoorRows
import Derived.Test.YtcjifjfcjimefaaDoorTie
import Derived.Test.YtcjifjfcjimefaaDoorCards
import Derived.Test.YtcjifjfcjimefaaDoorZWalkFnYFTurned
import Derived.WalkKit
import Derived.ProofKit
import Derived.LaidMore
import Derived.OpenShut
import Derived.ShutString
import Derived.ChangeOld
import Derived.ChangeSame
import Derived.ChangeVars
import Derived.WideKeyArgs
import Derived.ChangeStays
import Derived.Below
import Derived.Stop.Joined
import Derived.SevenTiedAt
namespace Go.Proofs.YtcjifjfcjimefaaDoor.fnYFTurned
open Go.ChangeShapes Go.WideShapes Go.ChangeAt Go.RowKit Go.Proofs.YtcjifjfcjimefaaDoor.xf
set_option linter.unusedVariables false

theorem own : ownKnob Tryd.prog.godebug = none := by kernel_rfl
theorem laidOut : laidOutB Tryd.prog = true := by kernel_rfl
theorem gP : Tryd.prog.globalNamed "given.example/pub-lumberyard/pub/godatastructures/trie/xfast.positions" = some 0 := by kernel_rfl
theorem gM : Tryd.prog.globalNamed "given.example/pub-lumberyard/pub/godatastructures/trie/xfast.masks" = some 1 := by kernel_rfl
theorem tP : (Tryd.prog.globals[0]?).map (·.type) = some 131 := by kernel_rfl
theorem tM : (Tryd.prog.globals[1]?).map (·.type) = some 131 := by kernel_rfl
theorem cE : Tryd.prog.cellsOf 25 = 1 := by kernel_rfl
theorem rec64 : Tryd.prog.readableRec 131 = true := by kernel_rfl
theorem row64 : 131 < Tryd.prog.types.size := of_decide_eq_true (by kernel_rfl)

/-- a table's numbers -/
def posL : List Nat := (List.range 64).map fun i => 2 ^ (63 - i)
def mskL : List Nat := (List.range 64).map fun i => 2 ^ 64 - 2 ^ (63 - i)
/-- the tables, as the condition lists them -/
theorem pos_list : (Rows.laid_given_example_pub_lumberyard_pub_godatastructures_trie_xfast_positions : DataW Unit) = .agg (posL.map fun n : Nat => .lit (.int .u64 (n : Int))) := by kernel_rfl
theorem msk_list : (Rows.laid_given_example_pub_lumberyard_pub_godatastructures_trie_xfast_masks : DataW Unit) = .agg (mskL.map fun n : Nat => .lit (.int .u64 (n : Int))) := by kernel_rfl
theorem tab_cells {W : World} {nm : String} {g fuel : Nat} {cs : Array Value} {d : DataW Unit} {p : List MemPlace} {enc : TypeId × Value → Unit} {sp : Nat → Bool} {held : Bool} {L : List Nat} (hg : Tryd.prog.globalNamed nm = some g) (hv : W.var? Tryd.prog nm = some cs)
    (hd : DataW.trod enc Tryd.prog W 0 sp held fuel 131 cs.toList = some (d, p)) (hL : d = .agg (L.map fun n : Nat => .lit (.int .u64 (n : Int)))) (i : Nat) (n : Nat) (hi : i < 64) (hn : L[i]? = some n) : W.cell? ⟨g, i, none⟩ = some (.int .u64 (n : Int)) := by
  obtain ⟨xs, m1, rfl, hx1, hlen, _, hel⟩ := DataW.trod_array Tryd.underlying131 hd
  rw [hL] at hx1
  simp only [Prod.mk.injEq, DataW.agg.injEq] at hx1
  have h0 := hel i hi
  rw [cE, Nat.mul_one] at h0
  have hxi : xs[i]? = some (xs[i]'(by omega)) := List.getElem?_eq_getElem (by omega)
  rw [hxi] at h0
  obtain ⟨k, e1, e2, _⟩ := DataW.trod_int Tryd.underlying25 h0
  have hk : k = (n : Int) := by
    have h3 := congrArg (fun l => l[i]?) hx1.1
    simp only [List.getElem?_map, hxi, Option.map_some, e2, hn] at h3
    simp only [Option.some.injEq, DataW.lit.injEq, Lit.int.injEq] at h3
    exact h3.2.symm
  have h4 := World.var?_cell hg hv i
  rw [h4]
  have h5 : cs.toList[i]? = some (.int .u64 k) := by
    have h6 := congrArg (fun l => l[0]?) e1
    simpa [List.getElem?_take, List.getElem?_drop] using h6
  rw [← Array.getElem?_toList, h5, hk]
theorem tabs_of_laid {W : World} (h : laidMetH Tryd.prog Rows.fnYFTurnedRow.laid W) : Tabs W := by
  rw [MakeChecks.laidMetH_plain _ _ _ (by kernel_rfl)] at h
  obtain ⟨ps, ⟨g, t, cs, fuel, p, q, hg, ht, hv, hd, ⟨g1, t1, cs1, fuel1, p1, q1, hg1, ht1, hv1, hd1, _, _⟩, _⟩, _⟩ := h
  obtain rfl := Option.some.inj (gM.symm.trans hg)
  obtain rfl := Option.some.inj (tM.symm.trans ht)
  obtain rfl := Option.some.inj (gP.symm.trans hg1)
  obtain rfl := Option.some.inj (tP.symm.trans ht1)
  have c0 := fun (i : Nat) (hi : i < 64) => tab_cells hg1 hv1 hd1 pos_list i (2 ^ (63 - i)) hi (by simp [posL, hi])
  have c1 := fun (i : Nat) (hi : i < 64) => tab_cells hg hv hd msk_list i (2 ^ 64 - 2 ^ (63 - i)) hi (by simp [mskL, hi])
  exact ⟨c0, c1, World.block_lt_of_cell? W _ (c1 0 (by omega))⟩

/-- a variable's value stays -/
theorem var_below {W W' : World} {nm : String} {k : Nat} {cs : Array Value} (hk : Tryd.prog.globalNamed nm = some k) (h : W.var? Tryd.prog nm = some cs) (b : Below W.heap.size W W') : W'.var? Tryd.prog nm = some cs := by
  unfold World.var? at h ⊢
  simp only [hk, Option.bind_some] at h ⊢
  have hlt : k < W.heap.size := by
    rcases Nat.lt_or_ge k W.heap.size with h' | h'
    · exact h'
    · simp [Array.getElem?_eq_none h'] at h
  rw [b.block k hlt]
  exact h
theorem vars_two {H : Type} {enc : TypeId × Value → H} {P : Program} {w : World} {sp : Nat → Bool} {a b : String} {gs : List (DataW H)} {ps : List MemPlace} (h : DataW.TrodVars enc P w sp [a, b] gs ps) :
    ∃ d0 d1 g0 t0 cs0 f0 p0 g1 t1 cs1 f1 p1, gs = [d0, d1] ∧ P.globalNamed a = some g0 ∧ (P.globals[g0]?).map (·.type) = some t0 ∧ w.var? P a = some cs0 ∧ DataW.trod enc P w 0 sp true f0 t0 cs0.toList = some (d0, p0) ∧ P.globalNamed b = some g1 ∧ (P.globals[g1]?).map (·.type) = some t1 ∧ w.var? P b = some cs1 ∧ DataW.trod enc P w 0 sp true f1 t1 cs1.toList = some (d1, p1) := by
  cases gs with
  | nil => simp [DataW.TrodVars] at h
  | cons d0 ds =>
    obtain ⟨g0, t0, cs0, f0, p0, q0, h1, h2, h3, h4, hs, e⟩ := h
    obtain ⟨g1, t1, cs1, f1, d1, p1, rfl, k1, k2, k3, k4, _⟩ := trodVars_one hs
    exact ⟨d0, d1, g0, t0, cs0, f0, p0, g1, t1, cs1, f1, p1, rfl, h1, h2, h3, h4, k1, k2, k3, k4⟩

theorem stays {H : Type} {enc : TypeId × Value → H} {W W' : World} {cs0 cs1 : Array Value} {f0 f1 : Nat} {e0 e1 : DataW H} {w0 w1 : List MemPlace} (bel : Below W.heap.size W W') (k0v : W.var? Tryd.prog "given.example/pub-lumberyard/pub/godatastructures/trie/xfast.positions" = some cs0) (k0d : DataW.trod enc Tryd.prog W 0 (fun _ => true) true f0 131 cs0.toList = some (e0, w0))
    (k1v : W.var? Tryd.prog "given.example/pub-lumberyard/pub/godatastructures/trie/xfast.masks" = some cs1) (k1d : DataW.trod enc Tryd.prog W 0 (fun _ => true) true f1 131 cs1.toList = some (e1, w1)) :
    DataW.TrodVars enc Tryd.prog W' (fun b => decide (b < W.heap.size)) ["given.example/pub-lumberyard/pub/godatastructures/trie/xfast.positions", "given.example/pub-lumberyard/pub/godatastructures/trie/xfast.masks"] [e0, e1] (MemPlace.row ⟨0, 0, none⟩ cs0.size ++ w0 ++ (MemPlace.row ⟨1, 0, none⟩ cs1.size ++ w1 ++ [])) := by
  have lt0 := DataW.trod_lt _ _ _ _ k0d
  have lt1 := DataW.trod_lt _ _ _ _ k1d
  have d0 := DataW.trod_stays (w' := W') (sp' := fun b => decide (b < W.heap.size)) (kids_book laidOut rec64) (book_sized rec64) (fun h => by cases h) ⟨row64, book_self 131⟩ k0d (fun x hx => bel.same (lt0 x hx)) (fun x hx => by simpa using lt0 x hx)
  have d1 := DataW.trod_stays (w' := W') (sp' := fun b => decide (b < W.heap.size)) (kids_book laidOut rec64) (book_sized rec64) (fun h => by cases h) ⟨row64, book_self 131⟩ k1d (fun x hx => bel.same (lt1 x hx)) (fun x hx => by simpa using lt1 x hx)
  exact ⟨0, 131, cs0, f0, w0, _, gP, tP, var_below gP k0v bel, d0, ⟨1, 131, cs1, f1, w1, [], gM, tM, var_below gM k1v bel, d1, rfl, rfl⟩, rfl⟩

theorem door_met (os : Os) (args : Array Value) : laidMetH Tryd.prog Rows.fnYFTurnedRow.laid ((World.doorLaid Tryd.prog 400 os).forCall (fun _ _ => 0) ⟨#[], args, []⟩).memory :=
  laidMetH_of_parts3 (fuel := 8) (laidMet_of_run' 8 (by kernel_rfl) (by kernel_rfl)) (by kernel_rfl) (by kernel_rfl)

set_option maxRecDepth 100000 in
theorem lifted (os : Os) (started : os.Started) (H : Type) (enc : TypeId × Value → H) :
    ReturnsInHanded {} Tryd.checked os 3 .any (fun w args => (Rows.fnYFTurnedSpec.pre enc Tryd.prog Tryd.f3 [] false w args ∧ laidMetH Tryd.prog Rows.fnYFTurnedRow.laid w) ∧ sizedMet enc Tryd.prog Tryd.f3 (OpenSpec.ofChange Rows.fnYFTurnedSpec) false w args)
      (Rows.fnYFTurnedSpec.post enc Tryd.prog Tryd.f3 false true false false) := by
  refine returnsInHanded_of_change_and (C := Tryd.checked) (X := fun w _ => laidMetH Tryd.prog Rows.fnYFTurnedRow.laid w) (fun _ _ _ hh h => h.of_heap hh) own started (by kernel_rfl) Tryd.func3
    (ChangeSpec.witness_shaped (enc := enc) (C := Tryd.checked) (os := os) (X := fun w _ => laidMetH Tryd.prog Rows.fnYFTurnedRow.laid w) false (World.doorLaid Tryd.prog 400 os) #[.int .u8 0, .slice none 0 0] 8 rfl (World.shaped_of_RefB (by kernel_rfl) (by kernel_rfl)) (by kernel_rfl) (by kernel_rfl) (by kernel_rfl) (door_met os _)) ?_
  intro W base args ds gs before hval0 hW _ _ hL _
  have hval : ∀ (j : Nat) t v, Tryd.f3.params[j]? = some t → args[j]? = some v → Value.okWide Tryd.prog W .any base t v := hval0
  have hW' := hW
  obtain ⟨p, q, hA0, hV0, rfl, hfz, hnd⟩ := hW
  have hA : DataW.TrodAll enc Tryd.prog W 0 (fun _ => true) true Tryd.f3.params.toList args.toList ds p := hA0
  rw [Tryd.params3] at hA hval
  obtain ⟨v0, vs0, d0, ds0, p0, q0, hargs, rfl, rfl, h0, r0⟩ := trodAll_cons hA
  obtain ⟨v1, vs1, d1, ds1, p1, q1, rfl, rfl, rfl, h1, r1⟩ := trodAll_cons r0
  obtain ⟨rfl, rfl, rfl⟩ := trodAll_nil r1
  obtain rfl : args = #[v0, v1] := by cases args; simp_all
  obtain ⟨e0, e1, g0, t0, cs0, f0, w0, g1, t1, cs1, f1, w1, rfl, k0, k0t, k0v, k0d, k1, k1t, k1v, k1d⟩ := vars_two hV0
  obtain rfl := Option.some.inj (gP.symm.trans k0)
  obtain rfl := Option.some.inj (tP.symm.trans k0t)
  obtain rfl := Option.some.inj (gM.symm.trans k1)
  obtain rfl := Option.some.inj (tM.symm.trans k1t)
  have lt0 : ∀ x ∈ p0, x.block < W.heap.size := by obtain ⟨m, hm⟩ := h0; exact DataW.trod_lt m _ _ _ hm
  have lt1 : ∀ x ∈ p1, x.block < W.heap.size := by obtain ⟨m, hm⟩ := h1; exact DataW.trod_lt m _ _ _ hm
  clear hA0 hval0 hV0
  refine (Go.Proofs.YtcjifjfcjimefaaDoor.walkFnYFTurned.walk W v0 v1 ⟨base, H, enc, d0, p0, hval 0 5 v0 rfl rfl, h0⟩ ⟨base, H, enc, d1, p1, hval 1 22 v1 rfl rfl, h1⟩ (tabs_of_laid hL)).mono fun e W' ⟨he, bel⟩ => ?_
  subst he
  exact ⟨_, rfl, _, _, _, [], _, _, hW', trodAll_mk1 (shut_bool Tryd.underlying4 _), (trodAll_cons_mk (Below.trod laidOut (by kernel_rfl) (of_decide_eq_true (by kernel_rfl)) h0 bel lt0) (trodAll_cons_mk (Below.trod laidOut (by kernel_rfl) (of_decide_eq_true (by kernel_rfl)) h1 bel lt1) trodAll_mk0)), stays bel k0v k0d k1v k1d, bel.frame _, fun h => by cases h⟩

theorem over : Rows.fnYFTurnedRow.holds Tryd.pinned (OpenSpec.ofChange Rows.fnYFTurnedSpec) :=
  OpenClaim.holds_of_wide 3 Tryd.f3 rfl rfl rfl rfl rfl rfl rfl ⟨rfl, rfl, rfl, rfl, rfl⟩ rfl rfl rfl rfl rfl (by kernel_rfl) Tryd.func3 (by kernel_rfl)
    (of_decide_eq_true (by kernel_rfl)) (by unfold Func.isWrapper; first | (rw [if_pos (by decide +kernel)]; kernel_rfl) | (rw [if_neg (by decide +kernel)]; exact ⟨rfl, rfl⟩))
    (fun os started H enc _ => lifted os started H enc)

theorem proved : Rows.FnYFTurnedCardSaid :=
  Claim7.holds_tied_plain_at .later [] [.data, .data] true (true, "10b3aba21c2307841a6eb85811c852f096a55f932cfa7887e331882ee4eca880") true
    over (fun _ h => by cases h) (by kernel_rfl) (fun _ h => by cases h) fnYFTurned_row_tie rfl ⟨rfl, rfl⟩ (by kernel_rfl) rfl
    (fun f fn hf hfn => by
      obtain rfl : f = 3 := Option.some.inj ((show Tryd.prog.funcNamed "given.example/pub-lumberyard/laws.FnYFTurned" = some 3 by kernel_rfl).symm.trans hf) |>.symm
      obtain rfl : fn = Tryd.f3 := (Option.some.inj (Tryd.func3.symm.trans hfn)).symm
      exact ⟨by kernel_rfl, fun j t ht => by
        rw [Tryd.params3] at ht
        have hm : t ∈ [5, 22] := by simpa using Array.mem_of_getElem? ht
        have hall : ([5, 22].all fun u => !Tryd.prog.wantsStandIn u) = true := by kernel_rfl
        exact (show Tryd.prog.wantsStandIn t = false by simpa using List.all_eq_true.1 hall t hm)⟩)
    (by kernel_rfl)
end Go.Proofs.YtcjifjfcjimefaaDoor.fnYFTurned

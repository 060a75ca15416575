/-
  The graph's AddEdge.
-/
import Derived.Test.YtpccodjmjgfloaaDoorGrObj
namespace Go.Proofs.YtpccodjmjgfloaaDoor.gr
open Go.RowKit Go.Proofs.YtpccodjmjgfloaaDoor.base Go.Proofs.YtpccodjmjgfloaaDoor.heap Go.Proofs.YtpccodjmjgfloaaDoor.rows Go.Proofs.YtpccodjmjgfloaaDoor.mapi
set_option linter.unusedVariables false

abbrev Sh := List (Int × List Int)
def sh (A : List Nb) : Sh := A.map fun a => (a.k, a.ks)
def hasV (S : Sh) (v : Int) : Bool := (S.find? (fun s => v == s.1)).isSome
def addVs (S : Sh) (v : Int) : Sh := if hasV S v then S else S ++ [(v, [])]
def nbrs (S : Sh) (v : Int) : List Int := ((S.find? (fun s => v == s.1)).map (·.2)).getD []
def putS (S : Sh) (v x : Int) : Sh := S.map fun s => if s.1 = v then (s.1, if x ∈ s.2 then s.2 else s.2 ++ [x]) else s
/-- the error's number; the vertices with their neighbours behind AddEdge -/
def errS (S : Sh) (v x : Int) : Nat := if v = x then 2 else if x ∈ nbrs (addVs (addVs S v) x) v then 3 else 0
def stepS (S : Sh) (v x : Int) : Sh := if v = x then S else if x ∈ nbrs (addVs (addVs S v) x) v then addVs (addVs S v) x else putS (putS (addVs (addVs S v) x) v x) x v

theorem sh_find (v : Int) (A : List Nb) : (sh A).find? (fun s => v == s.1) = (A.find? (fun a => v == a.k)).map (fun a => (a.k, a.ks)) := by
  unfold sh
  rw [List.find?_map]; rfl
theorem sh_addV (A : List Nb) (v : Int) (b : Nat) : sh (addV A v b) = addVs (sh A) v := by
  unfold addV addVs hasV
  rw [sh_find, Option.isSome_map]
  split
  · rfl
  · simp [sh]
theorem sh_updA (A : List Nb) (a : Nb) (ha : a ∈ A) (hk : (A.map (·.k)).Nodup) (x : Int) : sh (updA A a.k (if x ∈ a.ks then a.ks else a.ks ++ [x])) = putS (sh A) a.k x := by
  unfold sh updA putS
  rw [List.map_map, List.map_map]
  apply List.map_congr_left
  intro c hc
  simp only [Function.comp]
  by_cases h : c.k = a.k
  · have : c = a := map_inj hk hc ha h
    subst this
    rw [if_pos rfl, if_pos rfl]
  · rw [if_neg h, if_neg h]
theorem find_addV (A : List Nb) (v : Int) (b : Nat) : ∃ a, (addV A v b).find? (fun a => v == a.k) = some a := by
  unfold addV
  cases h : A.find? (fun a => v == a.k) with
  | some a => exact ⟨a, by simp [h]⟩
  | none => exact ⟨⟨v, b, []⟩, by simp [List.find?_append, h]⟩
theorem find_addV' (A : List Nb) (v x : Int) (b : Nat) (a : Nb) (h : A.find? (fun a => v == a.k) = some a) : (addV A x b).find? (fun a => v == a.k) = some a := by
  unfold addV
  split
  · exact h
  · rw [List.find?_append, h]; rfl
theorem addV_len (A : List Nb) (v : Int) (b : Nat) : (addV A v b).length ≤ A.length + 1 := by
  unfold addV
  split
  · omega
  · simp

/-- where the error values lie -/
def errFoot (a0 a1 a2 : Addr) (k : Nat) : Prop := k = 0 ∨ k = 1 ∨ k = 2 ∨ k = a0.block ∨ k = a1.block ∨ k = a2.block
theorem Errs.keep {w w' : World} {a0 a1 a2 : Addr} {S : Nat → Prop} (h : Errs w a0 a1 a2) (hO : Only S w w') (hn : ∀ k, errFoot a0 a1 a2 k → ¬ S k) : Errs w' a0 a1 a2 := by
  have hc : ∀ {p : Addr} {v : Value}, w.cell? p = some v → errFoot a0 a1 a2 p.block → w'.cell? p = some v := fun {p v} hp hf => (hO.cell (World.block_lt_of_cell? w _ hp) (hn _ hf)).trans hp
  have hb : ∀ {b : Nat}, blockIs w b → errFoot a0 a1 a2 b → blockIs w' b := fun ⟨c, t, hb⟩ hf => ⟨c, t, hO.obj hb (hn _ hf)⟩
  exact ⟨hc h.g0 (.inl rfl), hc h.g1 (.inr (.inl rfl)), hc h.g2 (.inr (.inr (.inl rfl))), hb h.b0 (.inr (.inr (.inr (.inl rfl)))), hb h.b1 (.inr (.inr (.inr (.inr (.inl rfl))))), hb h.b2 (.inr (.inr (.inr (.inr (.inr rfl))))), h.ne01, h.ne02, h.ne12⟩

theorem G.ok.setE {g : G} {w : World} (h : g.ok w) (e' : Nat) : (⟨g.p, g.mb, g.A, e'⟩ : G).ok (w.setCell ⟨g.p, 2, none⟩ (.int .i64 (e' : Int))) := by
  have hO : Only (fun k => k = g.p) w (w.setCell ⟨g.p, 2, none⟩ (.int .i64 (e' : Int))) := (Only.refl _ _).setCell _ _ (fun _ => rfl)
  exact ⟨setCell_heap h.obj 2 _, h.map.of_heap (hO.block _ h.map.lt (fun e => h.ne e.symm)), fun a ha => (h.adj a ha).of_heap (hO.block _ (h.adj a ha).lt (h.apart a ha).1), h.ne, h.apart, h.nd⟩
theorem mem_updA {A : List Nb} {v : Int} {ks : List Int} {a : Nb} (ha : a ∈ A) (h : a.k ≠ v) : a ∈ updA A v ks := List.mem_map.2 ⟨a, ha, by rw [if_neg h]⟩
theorem updA_k (A : List Nb) (v : Int) (ks : List Int) : (updA A v ks).map (·.k) = A.map (·.k) := by
  unfold updA
  rw [List.map_map]
  apply List.map_congr_left
  intro a _
  simp only [Function.comp]
  split <;> rfl
theorem updA_foot {p mb e : Nat} {A : List Nb} {v : Int} {ks : List Int} {k e' : Nat} (h : (⟨p, mb, updA A v ks, e⟩ : G).foot k) : (⟨p, mb, A, e'⟩ : G).foot k := by
  rcases h with h | h | ⟨a, ha, h⟩
  · exact .inl h
  · exact .inr (.inl h)
  · obtain ⟨c, hc, rfl⟩ := List.mem_map.1 ha
    refine .inr (.inr ⟨c, hc, ?_⟩)
    rw [h]
    split <;> rfl

/-- what AddEdge leaves -/
def Edged (g : G) (v x : Int) (a0 a1 a2 : Addr) (w : World) (e : Ending) (w' : World) : Prop :=
  ∃ g' : G, Did g w (errV a0 a1 a2 (errS (sh g.A) v x)) g' e w' ∧ g'.p = g.p ∧ sh g'.A = stepS (sh g.A) v x ∧ g'.e = (if errS (sh g.A) v x = 0 then g.e + 1 else g.e)

theorem Only.joinF {w w' w'' : World} {S T : Nat → Prop} (h : Only S w w') (h' : Only T w' w'') (hs : ∀ k, T k → S k ∨ w.heap.size ≤ k) : Only S w w'' :=
  Only.trans h h' (fun k hk t => (hs k t).resolve_right (by omega))

set_option maxRecDepth 100000 in
set_option maxHeartbeats 3200000 in
theorem addEdge (g : G) (v x : Int) (a0 a1 a2 : Addr) (w : World) (hok : g.ok w) (hAl : g.A.length ≤ 10000) (hel : g.e ≤ 10000) (hE : Errs w a0 a1 a2) (hEf : ∀ k, errFoot a0 a1 a2 k → ¬ g.foot k ∧ k < w.heap.size) :
    Calls Tryd.prog 20 #[.pointer (some ⟨g.p, 0, none⟩), ai v, ai x] w (Edged g v x a0 a1 a2 w) := by
  have hcmp : ∀ wx, (binOp .eql 20 (ai v) (ai x)).run Tryd.prog wx = .ok (.bool (v == x)) wx := fun wx => Lib.run_eql_iface_int wx v x Tryd.underlying20 (by kernel_rfl) Tryd.underlying3
  have HOK := Lib.hid hok
  have HE := Lib.hid hE
  have HEF := Lib.hid hEf
  by_cases hvx : v = x
  · have e1 : errS (sh g.A) v x = 2 := by unfold errS; rw [if_pos hvx]
    have e2 : stepS (sh g.A) v x = sh g.A := by unfold stepS; rw [if_pos hvx]
    have HFIN : Hid (Edged g v x a0 a1 a2 w (.returned (.iface ET (.pointer (some a1)))) w) := Lib.hid ⟨g, ⟨by rw [e1]; rfl, hok, Only.refl _ _, fun k hk => .inl hk⟩, rfl, e2.symm, by rw [e1]; rfl⟩
    have g1 := hE.g1
    rw [show (v == x) = true by simp [hvx]] at hcmp
    clear hok hE hEf e1 e2 hvx
    go_enter Tryd.func20, Tryd.ntmps20
    go_wp2_with fail
    go_ret
    exact HFIN.out
  · have HA1 := Lib.hid (addVertex g v w hok (by omega))
    rw [show (v == x) = false by simp [hvx]] at hcmp
    have HVX := Lib.hid hvx
    clear hok hE hEf hvx
    go_enter Tryd.func20, Tryd.ntmps20
    go_wp2_with fail
    refine HA1.out.mono ?_
    rintro e w1 ⟨rfl, hok1, hO1, hf1⟩
    have HA2 := Lib.hid (addVertex ⟨g.p, g.mb, addV g.A v w.heap.size, g.e⟩ x w1 hok1 (by have := addV_len g.A v w.heap.size; simp only; omega))
    have HO1 := Lib.hid hO1
    have HF1 := Lib.hid hf1
    clear hok1 hO1 hf1 HA1
    go_wp2_with fail
    refine HA2.out.mono ?_
    rintro e w2 ⟨rfl, hok2, hO2, hf2⟩
    have HO2 : Hid (Only g.foot w w2) := Lib.hid (Only.joinF HO1.out hO2 HF1.out)
    have HF2 : Hid (∀ k, (⟨g.p, g.mb, addV (addV g.A v w.heap.size) x w1.heap.size, g.e⟩ : G).foot k → g.foot k ∨ w.heap.size ≤ k) := Lib.hid (fun k hk => by
      rcases hf2 k hk with h | h
      · exact HF1.out k h
      · right; have := HO1.out.size; omega)
    obtain ⟨A2, hA2⟩ : ∃ A2, A2 = addV (addV g.A v w.heap.size) x w1.heap.size := ⟨_, rfl⟩
    obtain ⟨av0, hav0⟩ := find_addV g.A v w.heap.size
    have hav := find_addV' (addV g.A v w.heap.size) v x w1.heap.size av0 hav0
    obtain ⟨ax, hax⟩ := find_addV (addV g.A v w.heap.size) x w1.heap.size
    have hshA : sh A2 = addVs (addVs (sh g.A) v) x := by rw [hA2, sh_addV, sh_addV]
    rw [← hA2] at hav hax hok2 HF2
    generalize av0 = av at hav
    have HSH := Lib.hid hshA
    have HOK2 := Lib.hid hok2
    obtain ⟨mav, kav⟩ := find_mem hav
    obtain ⟨max', kax⟩ := find_mem hax
    have HNB : Hid (nbrs (addVs (addVs (sh g.A) v) x) v = av.ks) := Lib.hid (by rw [← hshA]; unfold nbrs; rw [sh_find, hav]; rfl)
    have HMO : Hid (∀ wx, Same w2 wx → MapIs 3 wx g.mb (pairs A2)) := Lib.hid (fun wx hx => (hok2.still hx).map)
    have HMAV : Hid (∀ wx, Same w2 wx → MapIs 3 wx av.b (ul av.ks)) := Lib.hid (fun wx hx => (hok2.still hx).adj av mav)
    have HVv : Hid ((if false = true then Value.tuple #[(mapi.get v (pairs A2)).getD (.map none), .bool (mapi.get v (pairs A2)).isSome] else (mapi.get v (pairs A2)).getD (.map none)) = .map (some av.b)) := Lib.hid (by rw [pairs_get, hav]; rfl)
    have HVx : Hid ((if false = true then Value.tuple #[(mapi.get x (pairs A2)).getD (.map none), .bool (mapi.get x (pairs A2)).isSome] else (mapi.get x (pairs A2)).getD (.map none)) = .map (some ax.b)) := Lib.hid (by rw [pairs_get, hax]; rfl)
    have HVi : Hid ((if true = true then Value.tuple #[(mapi.get x (ul av.ks)).getD (.agg #[]), .bool (mapi.get x (ul av.ks)).isSome] else (mapi.get x (ul av.ks)).getD (.agg #[])) = .tuple #[.agg #[], .bool (decide (x ∈ av.ks))]) := Lib.hid (by rw [if_pos rfl, ul_get, ul_getD])
    have HKC : Hid (∀ wx, Same w2 wx → wx.cell? ⟨g.p, 0, none⟩ = some (.map (some g.mb)) ∧ wx.cell? ⟨g.p, 2, none⟩ = some (.int .i64 (g.e : Int))) := Lib.hid (fun wx hx => ⟨block_cell (heap_still hx hok2.obj) rfl, block_cell (heap_still hx hok2.obj) rfl⟩)
    have HE2 : Hid (Errs w2 a0 a1 a2) := Lib.hid (HE.out.keep HO2.out (fun k hk => (HEF.out k hk).1))
    obtain ⟨c0, c2⟩ := HKC.out w2 (Only.refl _ _)
    have HAV := Lib.hid (show av ∈ A2 ∧ av.k = v from ⟨mav, kav⟩)
    have HAX := Lib.hid (show ax ∈ A2 ∧ ax.k = x from ⟨max', kax⟩)
    clear hA2 hav0 hav hax hshA hok2 hO2 hf2 HA2 mav kav max' kax
    by_cases hin : x ∈ av.ks
    · rw [decide_eq_true hin] at HVi
      have e1 : errS (sh g.A) v x = 3 := by unfold errS; rw [if_neg HVX.out, HNB.out, if_pos hin]
      have e2 : stepS (sh g.A) v x = sh A2 := by unfold stepS; rw [if_neg HVX.out, HNB.out, if_pos hin, HSH.out]
      have HFIN : Hid (∀ wx, Same w2 wx → Edged g v x a0 a1 a2 w (.returned (.iface ET (.pointer (some a2)))) wx) := Lib.hid (fun wx hx =>
        ⟨⟨g.p, g.mb, A2, g.e⟩, ⟨by rw [e1]; rfl, HOK2.out.still hx, Only.trans HO2.out hx (fun _ _ f => f.elim), HF2.out⟩, rfl, e2.symm, by rw [e1]; rfl⟩)
      have HG2 : Hid (∀ wx, Same w2 wx → wx.cell? ⟨2, 0, none⟩ = some (.iface ET (.pointer (some a2)))) := Lib.hid (fun wx hx => (HE2.out.still hx).g2)
      have g2 := HG2.out w2 (Only.refl _ _)
      have hlt2 : (2 : Nat) < w2.heap.size := World.block_lt_of_cell? w2 _ g2
      clear hin e1 e2
      go_wp2_with (first | (at_lookup; refine wpList_lookupI rfl _ _ TO false rfl ikey Tryd.underlying57 (zeroI _) rfl v rfl (HMO.out _ (Only.refl _ _)) _ HVv.out ?_) | (at_lookup; refine wpList_lookupI rfl _ _ TI true rfl ikey Tryd.underlying62 (zeroU _) rfl x rfl (HMAV.out _ (Only.refl _ _)) _ HVi.out ?_))
      go_ret
      exact HFIN.out _ ((Only.refl _ _).alloc _)
    · rw [decide_eq_false hin] at HVi
      have e1 : errS (sh g.A) v x = 0 := by unfold errS; rw [if_neg HVX.out, HNB.out, if_neg hin]
      have e2 : stepS (sh g.A) v x = putS (putS (sh A2) v x) x v := by unfold stepS; rw [if_neg HVX.out, HNB.out, if_neg hin, HSH.out]
      have HE1 := Lib.hid e1
      have HE2' := Lib.hid e2
      obtain ⟨K3, hK3⟩ : ∃ K3, K3 = if x ∈ av.ks then av.ks else av.ks ++ [x] := ⟨_, rfl⟩
      obtain ⟨K4, hK4⟩ : ∃ K4, K4 = if v ∈ ax.ks then ax.ks else ax.ks ++ [v] := ⟨_, rfl⟩
      have HK3 : Hid (put x (.agg #[]) (ul av.ks) = ul K3) := Lib.hid (by rw [ul_put, hK3])
      have HK4 : Hid (put v (.agg #[]) (ul ax.ks) = ul K4) := Lib.hid (by rw [ul_put, hK4])
      have HKE := Lib.hid (And.intro hK3 hK4)
      have hplt : g.p < w2.heap.size := lt_of_heap HOK2.out.obj
      have HMU : Hid (ax ∈ updA A2 av.k K3) := Lib.hid (mem_updA HAX.out.1 (by rw [HAX.out.2, HAV.out.2]; exact fun e => HVX.out e.symm))
      have HPU : Hid (pairs (updA A2 av.k K3) = pairs A2) := Lib.hid (updA_pairs _ _ _)
      clear hin e1 e2 hK3 hK4
      go_wp2_with (first
        | (at_lookup; refine wpList_lookupI rfl _ _ TO false rfl ikey Tryd.underlying57 (zeroI _) rfl v rfl (HMO.out _ (by with_reducible repeat (first | exact Only.refl _ _ | apply Only.alloc))) _ HVv.out ?_)
        | (at_lookup; refine wpList_lookupI rfl _ _ TI true rfl ikey Tryd.underlying62 (zeroU _) rfl x rfl (HMAV.out _ (by with_reducible repeat (first | exact Only.refl _ _ | apply Only.alloc))) _ HVi.out ?_)
        | (at_mapUpdate; refine wpList_updateI rfl _ _ _ TI rfl ikey Tryd.underlying62 rfl x rfl _ rfl (HMAV.out _ (by with_reducible repeat (first | exact Only.refl _ _ | apply Only.alloc))) ?_; intro w3 hM3 hg3 hs3; have hO3 : Only (fun k => k = av.b) w2 w3 := Only.grown (S := fun k => k = av.b) (by with_reducible repeat (first | exact Only.refl _ _ | apply Only.alloc)) hg3 (fun j _ e => by cases e; rfl); have hOK3 : (⟨g.p, g.mb, updA A2 av.k K3, g.e⟩ : G).ok w3 := HOK2.out.upd HAV.out.1 K3 (by rw [← HK3.out]; exact hM3) hO3; have hMo3 : MapIs 3 w3 g.mb (pairs A2) := (by rw [← HPU.out]; exact hOK3.map); have hAx3 : MapIs 3 w3 ax.b (ul ax.ks) := hOK3.adj ax HMU.out; have d0 : w3.cell? ⟨g.p, 0, none⟩ = some (.map (some g.mb)) := block_cell hOK3.obj rfl)
        | (at_lookup; refine wpList_lookupI rfl _ _ TO false rfl ikey Tryd.underlying57 (zeroI _) rfl x rfl hMo3 _ HVx.out ?_)
        | (at_mapUpdate; refine wpList_updateI rfl _ _ _ TI rfl ikey Tryd.underlying62 rfl v rfl _ rfl hAx3 ?_; intro w4 hM4 hg4 hs4; have hO4 : Only (fun k => k = ax.b) w3 w4 := Only.grown (S := fun k => k = ax.b) (Only.refl _ _) hg4 (fun j _ e => by cases e; rfl); have hOK4 : (⟨g.p, g.mb, updA (updA A2 av.k K3) ax.k K4, g.e⟩ : G).ok w4 := hOK3.upd HMU.out K4 (by rw [← HK4.out]; exact hM4) hO4; have z2 : w4.cell? ⟨g.p, 2, none⟩ = some (.int .i64 (g.e : Int)) := block_cell hOK4.obj rfl; have y2 : w4.frozen? ⟨g.p, 2, none⟩ = false := block_free hOK4.obj))
      go_ret
      have hO5 : Only (fun k => k = g.p) w4 (w4.setCell ⟨g.p, 2, none⟩ (.int .i64 ((g.e : Int) + 1))) := (Only.refl _ _).setCell _ _ (fun _ => rfl)
      have hfa : g.foot av.b ∨ w.heap.size ≤ av.b := HF2.out _ (.inr (.inr ⟨av, HAV.out.1, rfl⟩))
      have hfx : g.foot ax.b ∨ w.heap.size ≤ ax.b := HF2.out _ (.inr (.inr ⟨ax, HAX.out.1, rfl⟩))
      have hO : Only g.foot w (w4.setCell ⟨g.p, 2, none⟩ (.int .i64 ((g.e : Int) + 1))) :=
        Only.joinF (Only.joinF (Only.joinF HO2.out hO3 (fun k e => by rw [e]; exact hfa)) hO4 (fun k e => by rw [e]; exact hfx)) hO5 (fun k e => .inl (.inl e))
      have hOK5 := hOK4.setE (g.e + 1)
      have hcast : ((g.e + 1 : Nat) : Int) = (g.e : Int) + 1 := by omega
      rw [hcast] at hOK5
      refine ⟨⟨g.p, g.mb, updA (updA A2 av.k K3) ax.k K4, g.e + 1⟩, ⟨by rw [HE1.out]; rfl, hOK5, hO, fun k hk => HF2.out k (updA_foot (e' := g.e) (updA_foot (e' := g.e) hk))⟩, rfl, ?_, by rw [HE1.out]; rfl⟩
      have q1 := sh_updA A2 av HAV.out.1 HOK2.out.keys x
      rw [← HKE.out.1, HAV.out.2] at q1
      have q2 := sh_updA (updA A2 av.k K3) ax HMU.out (by rw [updA_k]; exact HOK2.out.keys) v
      rw [← HKE.out.2, HAX.out.2] at q2
      rw [HE2'.out]
      show sh (updA (updA A2 av.k K3) ax.k K4) = _
      rw [HAX.out.2, q2, HAV.out.2, q1]
end Go.Proofs.YtpccodjmjgfloaaDoor.gr

/-
  The graph's object: vertices with their neighbours, in maps of maps; addVertex.
-/
import Derived.Test.YtpccodjmjgfloaaDoorGrErr
namespace Go.Proofs.YtpccodjmjgfloaaDoor.gr
open Go.RowKit Go.Proofs.YtpccodjmjgfloaaDoor.base Go.Proofs.YtpccodjmjgfloaaDoor.heap Go.Proofs.YtpccodjmjgfloaaDoor.rows Go.Proofs.YtpccodjmjgfloaaDoor.mapi
set_option linter.unusedVariables false

theorem ikey : IKey Tryd.prog 20 3 := ⟨⟨_, Tryd.underlying20⟩, Tryd.underlying3, by
  have h : (Tryd.prog.info? 3).map (·.comparable) = some true := by kernel_rfl
  exact Option.map_eq_some_iff.1 h⟩
theorem zeroU (w : World) : (zeroValue 65).run Tryd.prog w = .ok (.agg #[]) w := by kernel_rfl
abbrev TI : Nat := 62
abbrev TO : Nat := 57
theorem zeroI (w : World) : (zeroValue TI).run Tryd.prog w = .ok (.map none) w := by kernel_rfl
/-- an int behind interface{} -/
abbrev ai (n : Int) : Value := .iface 3 (.int .i64 n)

/-- a vertex: its key, the block of its neighbours' map, its neighbours -/
structure Nb where
  k : Int
  b : Nat
  ks : List Int
def pairs (A : List Nb) : List (Int × Value) := A.map fun a => (a.k, .map (some a.b))
theorem pairs_find (n : Int) : ∀ (A : List Nb) (i : Nat), (findI n (pairs A) i).map (·.2) = (A.find? (fun a => n == a.k)).map (fun a => Value.map (some a.b))
  | [], i => rfl
  | a :: A, i => by
    show (if n == a.k then some (i, Value.map (some a.b)) else findI n (pairs A) (i + 1)).map (·.2) = _
    rw [List.find?_cons]
    cases n == a.k
    · simp only [Bool.false_eq_true, if_false]; exact pairs_find n A (i + 1)
    · rfl
theorem pairs_get (n : Int) (A : List Nb) : mapi.get n (pairs A) = (A.find? (fun a => n == a.k)).map (fun a => Value.map (some a.b)) := pairs_find n A 0
theorem pairs_put (n : Int) (v : Value) (A : List Nb) (h : A.find? (fun a => n == a.k) = none) : put n v (pairs A) = pairs A ++ [(n, v)] := by
  unfold put
  have := pairs_get n A
  rw [h] at this
  unfold mapi.get at this
  cases hf : findI n (pairs A) 0 with
  | none => rfl
  | some q => rw [hf] at this; cases this
theorem find_mem {n : Int} {A : List Nb} {a : Nb} (h : A.find? (fun a => n == a.k) = some a) : a ∈ A ∧ a.k = n :=
  ⟨List.mem_of_find?_eq_some h, by have := List.find?_some h; simpa using (eq_of_beq this).symm⟩

structure G where
  p : Nat
  mb : Nat
  A : List Nb
  e : Nat
def G.foot (g : G) (k : Nat) : Prop := k = g.p ∨ k = g.mb ∨ ∃ a ∈ g.A, k = a.b
structure G.ok (g : G) (w : World) : Prop where
  obj : w.heap[g.p]? = some (.cells #[.map (some g.mb), .int .i64 (g.A.length : Int), .int .i64 (g.e : Int)] 59 (0, 0))
  map : MapIs 3 w g.mb (pairs g.A)
  adj : ∀ a ∈ g.A, MapIs 3 w a.b (ul a.ks)
  ne : g.p ≠ g.mb
  apart : ∀ a ∈ g.A, a.b ≠ g.p ∧ a.b ≠ g.mb
  nd : (g.A.map (·.b)).Nodup
theorem G.ok.keep {g : G} {w w' : World} {S : Nat → Prop} (h : g.ok w) (ho : Only S w w') (hn : ∀ k, g.foot k → ¬ S k) : g.ok w' :=
  ⟨ho.obj h.obj (hn _ (.inl rfl)), h.map.of_heap (ho.block _ h.map.lt (hn _ (.inr (.inl rfl)))), fun a ha => (h.adj a ha).of_heap (ho.block _ (h.adj a ha).lt (hn _ (.inr (.inr ⟨a, ha, rfl⟩)))), h.ne, h.apart, h.nd⟩
theorem G.ok.still {g : G} {w w' : World} (h : g.ok w) (ho : Same w w') : g.ok w' := h.keep ho (fun _ _ => id)
theorem G.ok.lt {g : G} {w : World} (h : g.ok w) : ∀ k, g.foot k → k < w.heap.size := by
  rintro k (rfl | rfl | ⟨a, ha, rfl⟩)
  · exact lt_of_heap h.obj
  · exact h.map.lt
  · exact (h.adj a ha).lt
theorem G.ok.keys {g : G} {w : World} (h : g.ok w) : (g.A.map (·.k)).Nodup := by
  have := h.map.nodup
  simpa [pairs, List.map_map, Function.comp_def] using this
theorem map_inj {α β : Type} {f : α → β} {l : List α} (h : (l.map f).Nodup) {a b : α} (ha : a ∈ l) (hb : b ∈ l) (he : f a = f b) : a = b := by
  induction l with
  | nil => cases ha
  | cons x l ih =>
    rw [List.map_cons, List.nodup_cons] at h
    rcases List.mem_cons.1 ha with e1 | ha'
    · rcases List.mem_cons.1 hb with e2 | hb'
      · rw [e1, e2]
      · exact absurd (List.mem_map.2 ⟨b, hb', by rw [← he, e1]⟩) h.1
    · rcases List.mem_cons.1 hb with e2 | hb'
      · exact absurd (List.mem_map.2 ⟨a, ha', by rw [he, e2]⟩) h.1
      · exact ih h.2 ha' hb'

def updA (A : List Nb) (v : Int) (ks : List Int) : List Nb := A.map fun a => if a.k = v then ⟨a.k, a.b, ks⟩ else a
theorem updA_pairs (A : List Nb) (v : Int) (ks : List Int) : pairs (updA A v ks) = pairs A := by
  unfold pairs updA
  rw [List.map_map]
  apply List.map_congr_left
  intro a _
  simp only [Function.comp]
  split <;> rfl
theorem updA_b (A : List Nb) (v : Int) (ks : List Int) : (updA A v ks).map (·.b) = A.map (·.b) := by
  unfold updA
  rw [List.map_map]
  apply List.map_congr_left
  intro a _
  simp only [Function.comp]
  split <;> rfl
/-- a vertex's neighbours are others -/
theorem G.ok.upd {g : G} {w w' : World} (h : g.ok w) {a : Nb} (ha : a ∈ g.A) (ks : List Int) (hM : MapIs 3 w' a.b (ul ks)) (hO : Only (fun k => k = a.b) w w') : (⟨g.p, g.mb, updA g.A a.k ks, g.e⟩ : G).ok w' := by
  have hap := h.apart a ha
  refine ⟨?_, ?_, ?_, h.ne, ?_, by show ((updA g.A a.k ks).map (·.b)).Nodup; rw [updA_b]; exact h.nd⟩
  · have := hO.obj h.obj (fun e => hap.1 e.symm)
    rw [show (updA g.A a.k ks).length = g.A.length from List.length_map ..]
    exact this
  · show MapIs _ w' g.mb (pairs (updA g.A a.k ks))
    rw [updA_pairs]
    exact h.map.of_heap (hO.block _ h.map.lt (fun e => hap.2 e.symm))
  · intro c hc
    obtain ⟨d, hd, rfl⟩ := List.mem_map.1 hc
    by_cases hk : d.k = a.k
    · have : d = a := map_inj h.keys hd ha hk
      subst this
      rw [if_pos rfl]
      exact hM
    · rw [if_neg hk]
      have hb : d.b ≠ a.b := fun e => hk (by rw [map_inj h.nd hd ha e])
      exact (h.adj d hd).of_heap (hO.block _ (h.adj d hd).lt hb)
  · intro c hc
    obtain ⟨d, hd, rfl⟩ := List.mem_map.1 hc
    have := h.apart d hd
    split
    · exact this
    · exact this

def addV (A : List Nb) (v : Int) (b : Nat) : List Nb := if (A.find? (fun a => v == a.k)).isSome then A else A ++ [(⟨v, b, []⟩ : Nb)]
/-- a step on the graph -/
def Did (g : G) (w : World) (r : Value) (g' : G) (e : Ending) (w' : World) : Prop := e = .returned r ∧ g'.ok w' ∧ Only g.foot w w' ∧ ∀ k, g'.foot k → g.foot k ∨ w.heap.size ≤ k

set_option maxRecDepth 100000 in
set_option maxHeartbeats 1600000 in
theorem addVertex (g : G) (v : Int) (w : World) (hok : g.ok w) (hAl : g.A.length ≤ 100000) :
    Calls Tryd.prog 23 #[.pointer (some ⟨g.p, 0, none⟩), ai v] w (Did g w (.tuple #[]) ⟨g.p, g.mb, addV g.A v w.heap.size, g.e⟩) := by
  have HOK := Lib.hid hok
  obtain ⟨p, mb, A, ne⟩ := g
  have HB : Hid (w.heap[p]? = some (.cells #[.map (some mb), .int .i64 (A.length : Int), .int .i64 (ne : Int)] 59 (0, 0))) := Lib.hid hok.obj
  have HM : Hid (MapIs 3 w mb (pairs A)) := Lib.hid hok.map
  have hpm : p ≠ mb := hok.ne
  clear hok
  simp only at hAl ⊢
  have c0 : w.cell? ⟨p, 0, none⟩ = some (.map (some mb)) := block_cell HB.out rfl
  cases hf : A.find? (fun a => v == a.k) with
  | some a =>
    have HV : Hid ((if true = true then Value.tuple #[(mapi.get v (pairs A)).getD (.map none), .bool (mapi.get v (pairs A)).isSome] else (mapi.get v (pairs A)).getD (.map none)) = .tuple #[.map (some a.b), .bool true]) := Lib.hid (by rw [if_pos rfl, pairs_get, hf]; rfl)
    have HA : Hid (addV A v w.heap.size = A) := Lib.hid (by unfold addV; rw [hf]; rfl)
    clear hf
    go_enter Tryd.func23, Tryd.ntmps23
    go_wp2_with (at_lookup; refine wpList_lookupI rfl _ _ TO true rfl ikey Tryd.underlying57 (zeroI _) rfl v rfl HM.out _ HV.out ?_)
    go_end0
    rw [HA.out]
    exact ⟨rfl, HOK.out, Only.refl _ _, fun k hk => .inl hk⟩
  | none =>
    have HV : Hid ((if true = true then Value.tuple #[(mapi.get v (pairs A)).getD (.map none), .bool (mapi.get v (pairs A)).isSome] else (mapi.get v (pairs A)).getD (.map none)) = .tuple #[.map none, .bool false]) := Lib.hid (by rw [if_pos rfl, pairs_get, hf]; rfl)
    have HA : Hid (addV A v w.heap.size = A ++ [(⟨v, w.heap.size, []⟩ : Nb)]) := Lib.hid (by unfold addV; rw [hf]; rfl)
    have HPUT : Hid (put v (.map (some w.heap.size)) (pairs A) = pairs (A ++ [(⟨v, w.heap.size, []⟩ : Nb)])) := Lib.hid (by rw [pairs_put v _ A hf]; simp [pairs])
    clear hf
    obtain ⟨w1, hw1⟩ : ∃ w1, w1 = w.alloc (.map #[] 0) := ⟨_, rfl⟩
    have HS1 : Hid (Same w w1) := Lib.hid (by rw [hw1]; exact (Only.refl _ w).alloc _)
    have HMN : Hid (MapIs 3 w1 w.heap.size (ul [])) := Lib.hid (by rw [hw1]; exact MapIs.made 3 w)
    have HM1 : Hid (MapIs 3 w1 mb (pairs A)) := Lib.hid (HM.out.of_heap (HS1.out.block _ HM.out.lt id))
    have hmm : (Instr.makeMap TI none).run Tryd.prog w = .ok (.map (some w.heap.size)) w1 := by rw [hw1]; exact run_makeMap TI w
    have HB1 := Lib.hid (heap_still HS1.out HB.out)
    have c1 : w1.cell? ⟨p, 0, none⟩ = some (.map (some mb)) := block_cell HB1.out rfl
    have hmlt := HM.out.lt
    have hplt := lt_of_heap HB.out
    obtain ⟨b, hb⟩ : ∃ b, b = w.heap.size := ⟨_, rfl⟩
    rw [← hb] at HA HPUT HMN hmm hmlt hplt ⊢
    have HBE := Lib.hid hb
    clear hw1 hb
    have HAL : Hid (((A ++ [(⟨v, b, []⟩ : Nb)]).length : Int) = (A.length : Int) + 1) := Lib.hid (by simp)
    go_enter Tryd.func23, Tryd.ntmps23
    go_wp2_with (first | (at_lookup; refine wpList_lookupI rfl _ _ TO true rfl ikey Tryd.underlying57 (zeroI _) rfl v rfl HM.out _ HV.out ?_) | (at_mapUpdate; refine wpList_updateI rfl _ _ _ TO rfl ikey Tryd.underlying57 rfl v rfl _ rfl HM1.out ?_; intro w2 hM2 hg2 hs2; have hO2 : Only (fun k => k = mb) w1 w2 := (Only.refl _ w1).grown hg2 (fun j _ e => by cases e; rfl); have hb2 := hO2.obj HB1.out hpm; have d1 : w2.cell? ⟨p, 1, none⟩ = some (.int .i64 (A.length : Int)) := block_cell hb2 rfl; have f1 : w2.frozen? ⟨p, 1, none⟩ = false := block_free hb2))
    go_end0
    rw [HA.out]
    have hO3 : Only (fun k => k = p) w2 (w2.setCell ⟨p, 1, none⟩ (.int .i64 ((A.length : Int) + 1))) := (Only.refl _ _).setCell _ _ (fun _ => rfl)
    have hO23 : Only (fun k => k = p ∨ k = mb) w1 (w2.setCell ⟨p, 1, none⟩ (.int .i64 ((A.length : Int) + 1))) := Only.trans (hO2.mono (fun _ _ e => .inr e)) hO3 (fun _ _ e => .inl e)
    have hb1 : b < w1.heap.size := HMN.out.lt
    have hok := HOK.out
    refine ⟨rfl, ⟨?_, ?_, ?_, hpm, ?_, ?_⟩, Only.trans (HS1.out.mono (fun _ _ f => f.elim)) hO23 (fun k _ h => h.elim .inl (fun h => .inr (.inl h))), ?_⟩
    · have := setCell_heap hb2 1 (.int .i64 ((A.length : Int) + 1))
      show _ = some (Obj.cells #[.map (some mb), .int .i64 ((A ++ [(⟨v, b, []⟩ : Nb)]).length : Int), .int .i64 (ne : Int)] _ _)
      rw [HAL.out]
      exact this
    · have : MapIs 3 w2 mb (pairs (A ++ [(⟨v, b, []⟩ : Nb)])) := by rw [← HPUT.out]; exact hM2
      exact this.of_heap (hO3.block _ this.lt (fun e => hpm e.symm))
    · intro a ha
      rcases List.mem_append.1 ha with ha | ha
      · have h1 := hok.adj a ha
        have h2 := hok.apart a ha
        have h3 : MapIs 3 w1 a.b (ul a.ks) := h1.of_heap (HS1.out.block _ h1.lt id)
        exact h3.of_heap (hO23.block _ h3.lt (fun h => h.elim h2.1 h2.2))
      · simp at ha
        subst ha
        exact HMN.out.of_heap (hO23.block _ hb1 (fun h => by show False; rcases h with h | h <;> (have h : b = _ := h; omega)))
    · intro a ha
      rcases List.mem_append.1 ha with ha | ha
      · exact hok.apart a ha
      · simp at ha
        subst ha
        show b ≠ p ∧ b ≠ mb
        omega
    · show ((A ++ [(⟨v, b, []⟩ : Nb)]).map (·.b)).Nodup
      rw [List.map_append, List.nodup_append]
      refine ⟨hok.nd, by simp, fun x hx y hy => ?_⟩
      simp at hy
      subst hy
      obtain ⟨a, ha, rfl⟩ := List.mem_map.1 hx
      have := (hok.adj a ha).lt
      have := HBE.out
      omega
    · intro k hk
      rcases hk with hk | hk | ⟨a, ha, hk⟩
      · exact .inl (.inl hk)
      · exact .inl (.inr (.inl hk))
      · rcases List.mem_append.1 ha with ha | ha
        · exact .inl (.inr (.inr ⟨a, ha, hk⟩))
        · simp at ha
          subst ha
          right
          have := HBE.out
          simp only at hk
          omega
end Go.Proofs.YtpccodjmjgfloaaDoor.gr

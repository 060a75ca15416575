/-
  A graph of edges that are added one after the other: grOf, GRRun of the thin package.
-/
import Derived.Test.YtpccodjmjgfloaaDoorGrEdge
namespace Go.Proofs.YtpccodjmjgfloaaDoor.gr
open Go.RowKit Go.Proofs.YtpccodjmjgfloaaDoor.base Go.Proofs.YtpccodjmjgfloaaDoor.heap Go.Proofs.YtpccodjmjgfloaaDoor.rows Go.Proofs.YtpccodjmjgfloaaDoor.mapi
set_option linter.unusedVariables false

abbrev Ed := Int × Int
def edc (p : Ed) : List Value := [iv p.1, iv p.2]
theorem edc_len (l : List Ed) : (l.flatMap edc).length = l.length * 2 := by
  induction l with
  | nil => rfl
  | cons s l ih => rw [List.flatMap_cons, List.length_append, ih]; simp [edc]; omega
theorem edc_get (l : List Ed) : ∀ (i : Nat) (s : Ed), l[i]? = some s → (l.flatMap edc)[i * 2]? = some (iv s.1) ∧ (l.flatMap edc)[i * 2 + 1]? = some (iv s.2) := by
  induction l with
  | nil => intro i s h; simp at h
  | cons t l ih =>
    intro i s h
    rw [List.flatMap_cons]
    cases i with
    | zero =>
      simp at h
      subst h
      exact ⟨rfl, rfl⟩
    | succ i =>
      have := ih i s (by simpa using h)
      constructor
      · rw [List.getElem?_append_right (by simp [edc]; omega)]
        rw [show (i + 1) * 2 - (edc t).length = i * 2 by simp [edc]; omega]
        exact this.1
      · rw [List.getElem?_append_right (by simp [edc]; omega)]
        rw [show (i + 1) * 2 + 1 - (edc t).length = i * 2 + 1 by simp [edc]; omega]
        exact this.2
theorem edc_one (l : List Ed) : ∀ u ∈ l.flatMap edc, u.oneCell' = true := by
  intro u hu
  obtain ⟨s, _, hs⟩ := List.mem_flatMap.1 hu
  simp only [edc, List.mem_cons, List.not_mem_nil, or_false] at hs
  rcases hs with rfl | rfl <;> rfl
/-- a list of edges that is read -/
def RE (w : World) (a : Option Addr) (n cap : Nat) (l : List Ed) : Prop := Rd 2 w a n cap (l.flatMap edc) ∧ l.length = n
theorem RE.still {w w' : World} {a : Option Addr} {n cap : Nat} {l : List Ed} (h : RE w a n cap l) (ho : Same w w') : RE w' a n cap l := ⟨h.1.keep ho (fun _ _ => id), h.2⟩
theorem RE.at {w : World} {a : Option Addr} {n cap : Nat} {l : List Ed} (h : RE w a n cap l) (h0 : 0 < n) :
    ∃ b off, a = some ⟨b, off, none⟩ ∧ b < w.heap.size ∧ ∀ i s, l[i]? = some s → w.cell? ⟨b, off + i * 2, none⟩ = some (iv s.1) ∧ w.cell? ⟨b, off + i * 2 + 1, none⟩ = some (iv s.2) := by
  obtain ⟨b, off, ha, hb, hc⟩ := h.1.cells h0
  exact ⟨b, off, ha, hb, fun i s hs => by
    obtain ⟨h1, h2⟩ := edc_get l i s hs
    exact ⟨hc _ _ h1, by have := hc _ _ h2; rwa [← Nat.add_assoc] at this⟩⟩
theorem RE.get {w : World} {a : Option Addr} {n cap : Nat} {l : List Ed} (h : RE w a n cap l) {k : Nat} (hk : k < n) : ∃ x, l[k]? = some x := ⟨l[k]'(by rw [h.2]; exact hk), List.getElem?_eq_getElem _⟩

/-- the vertices, the errors' numbers, the number of edges -/
structure T where
  S : Sh
  es : List Int
  e : Nat
def T.step (t : T) (p : Ed) : T := ⟨stepS t.S p.1 p.2, t.es ++ [(errS t.S p.1 p.2 : Int)], if errS t.S p.1 p.2 = 0 then t.e + 1 else t.e⟩
def tOf (l : List Ed) : T := l.foldl T.step ⟨[], [], 0⟩
theorem tOf_take (l : List Ed) (k : Nat) (p : Ed) (h : l[k]? = some p) : tOf (l.take (k + 1)) = (tOf (l.take k)).step p := by
  unfold tOf; rw [take_snoc l k p h, List.foldl_append]; rfl
theorem addVs_len (S : Sh) (v : Int) : (addVs S v).length ≤ S.length + 1 := by
  unfold addVs; split <;> simp
theorem stepS_len (S : Sh) (v x : Int) : (stepS S v x).length ≤ S.length + 2 := by
  have h1 := addVs_len S v
  have h2 := addVs_len (addVs S v) x
  unfold stepS
  split
  · omega
  · split
    · omega
    · simp only [putS, List.length_map]; omega
theorem tOf_len (l : List Ed) (k : Nat) (hk : k ≤ l.length) : (tOf (l.take k)).S.length ≤ 2 * k ∧ (tOf (l.take k)).e ≤ k ∧ (tOf (l.take k)).es.length = k := by
  induction k with
  | zero => exact ⟨Nat.le_refl _, Nat.le_refl _, rfl⟩
  | succ k ih =>
    obtain ⟨h1, h2, h3⟩ := ih (by omega)
    rw [tOf_take l k _ (List.getElem?_eq_getElem (show k < l.length by omega))]
    refine ⟨?_, ?_, by simp [T.step, h3]⟩
    · have := stepS_len (tOf (l.take k)).S l[k].1 l[k].2
      show (stepS _ _ _).length ≤ _
      omega
    · show (if errS (tOf (l.take k)).S l[k].1 l[k].2 = 0 then (tOf (l.take k)).e + 1 else (tOf (l.take k)).e) ≤ _
      split <;> omega
theorem errS_le (S : Sh) (v x : Int) : errS S v x ≤ 3 := by
  unfold errS
  split
  · omega
  · split <;> omega

theorem slI : SliceOf Tryd.prog 23 3 1 8 := SliceOf.mk (z := .int .i64 0) Tryd.underlying23 (by kernel_rfl) rfl

theorem newGraph (w : World) : Calls Tryd.prog 19 #[] w fun e w' => ∃ g : G, e = .returned (.pointer (some ⟨g.p, 0, none⟩)) ∧ g.ok w' ∧ g.A = [] ∧ g.e = 0 ∧ Same w w' ∧ ∀ k, g.foot k → w.heap.size ≤ k := by
  have hmm := @run_makeMap Tryd.prog
  go_enter Tryd.func19, Tryd.ntmps19
  go_wp2_with fail
  go_ret
  have hS : Same (w.alloc (.map #[] 0)) ((w.alloc (.map #[] 0)).alloc (.cells #[.map (some w.heap.size), .int .i64 0, .int .i64 0] 59)) := (Only.refl _ _).alloc _
  refine ⟨⟨w.heap.size + 1, w.heap.size, [], 0⟩, rfl, ⟨heap_alloc_new' _ _ _ (by simp), ?_, fun a ha => (nomatch ha), by simp, fun a ha => (nomatch ha), List.nodup_nil⟩, rfl, rfl, ((Only.refl _ w).alloc _).alloc _, fun k hk => ?_⟩
  · have h := MapIs.made 3 w
    exact h.of_heap (hS.block _ h.lt id)
  · rcases hk with hk | hk | ⟨a, ha, _⟩
    · simp only at hk; omega
    · simp only at hk; omega
    · exact nomatch ha

/-- what grOf hands back -/
def Made (l : List Ed) (n : Nat) (w : World) (e : Ending) (w' : World) : Prop :=
  ∃ (g : G) (ea : Option Addr) (ec : Nat), e = .returned (.tuple #[.pointer (some ⟨g.p, 0, none⟩), .slice ea n ec]) ∧ g.ok w' ∧ sh g.A = (tOf l).S ∧ g.e = (tOf l).e ∧ OL 3 iv w' ea n ec (tOf l).es ∧ Same w w' ∧ ∀ j, g.foot j → w.heap.size ≤ j

set_option maxRecDepth 100000 in
set_option maxHeartbeats 3200000 in
theorem grOf (a : Option Addr) (n cap : Nat) (l : List Ed) (a0 a1 a2 : Addr) (w : World) (h : RE w a n cap l) (hn : n ≤ 100) (hE : Errs w a0 a1 a2) (hEf : ∀ k, errFoot a0 a1 a2 k → k < w.heap.size) :
    Calls Tryd.prog 11 #[.slice a n cap] w (Made l n w) := by
  have hbd := h.1.bound
  have HR := Lib.hid h
  have HE := Lib.hid hE
  have HEF := Lib.hid hEf
  have HNG := Lib.hid (newGraph w)
  clear h hE hEf
  go_enter Tryd.func11, Tryd.ntmps11
  go_wp2_with fail
  refine HNG.out.mono ?_
  rintro e w1 ⟨g0, rfl, hok0, hA0, he0, hS1, hf0⟩
  have HG0 : Hid (g0.ok w1 ∧ sh g0.A = (tOf (l.take 0)).S ∧ g0.e = (tOf (l.take 0)).e) := Lib.hid ⟨hok0, by rw [hA0]; rfl, he0⟩
  have HS1 := Lib.hid hS1
  have HF0 := Lib.hid hf0
  clear hok0 hA0 he0 hS1 hf0 HNG
  obtain ⟨p, hp⟩ : ∃ p, g0.p = p := ⟨_, rfl⟩
  rw [hp]
  have HP0 := Lib.hid hp
  clear hp
  go_wp2_with fail
  go_loopw [5, 11] (fun out i wr => ∃ (k : Nat) (g : G) (ea : Option Addr) (ec : Nat), k ≤ n ∧ i = .int .i64 (k : Int) ∧ out = .slice ea k ec ∧ g.p = p ∧ g.ok wr ∧ sh g.A = (tOf (l.take k)).S ∧ g.e = (tOf (l.take k)).e ∧ OL 3 iv wr ea k ec (tOf (l.take k)).es ∧ Same w wr ∧ (∀ j, g.foot j → w.heap.size ≤ j) ∧ ∀ j, At ea j → w.heap.size ≤ j ∧ ¬ g.foot j) (fun _ i _ => n - (intOf i).toNat)
  case atStart => exact ⟨0, g0, none, 0, Nat.zero_le _, rfl, rfl, HP0.out, HG0.out.1, HG0.out.2.1, HG0.out.2.2, OL.nil _ _ _, HS1.out, HF0.out, fun j hj => hj.elim⟩
  case round =>
    clear HG0 HS1 HF0 HP0
    obtain ⟨k, g, ea, ec, hk, rfl, rfl, hp, hok, hsh, hge, hown, hO, hgf, hea⟩ := hrel
    have hbo := hown.bound
    have HP := Lib.hid hp
    have HOK := Lib.hid hok
    have HSH := Lib.hid hsh
    have HGE := Lib.hid hge
    have HOWN := Lib.hid hown
    have HO := Lib.hid hO
    have HGF := Lib.hid hgf
    have HEA := Lib.hid hea
    clear hp hok hsh hge hown hO hgf hea
    by_cases hlt : k < n
    · have hlt' : (k : Int) < (n : Int) := by omega
      obtain ⟨b, off, rfl, hb, hc⟩ := (HR.out.still HO.out).at (by omega)
      obtain ⟨s, hs⟩ := HR.out.get hlt
      obtain ⟨v, x⟩ := s
      obtain ⟨c0, c1⟩ := hc k _ hs
      simp only at c0 c1
      have HT := Lib.hid (tOf_take l k (v, x) hs)
      have hlen := tOf_len l k (by have := HR.out.2; omega)
      have HEr : Hid (∀ wx, Same wr wx → Errs wx a0 a1 a2) := Lib.hid (fun wx hx => (HE.out.still HO.out).still hx)
      have HADD : Hid (∀ wx, Same wr wx → Calls Tryd.prog 20 #[.pointer (some ⟨p, 0, none⟩), .iface 3 (.int .i64 v), .iface 3 (.int .i64 x)] wx (Edged g v x a0 a1 a2 wx)) := Lib.hid (fun wx hx => by
        rw [← HP.out]
        refine addEdge g v x a0 a1 a2 wx (HOK.out.still hx) ?_ ?_ (HEr.out wx hx) (fun j hj => ⟨fun hf => ?_, ?_⟩)
        · have : g.A.length = (sh g.A).length := by simp [sh]
          rw [this, HSH.out]; omega
        · rw [HGE.out]; omega
        · have := HGF.out j hf; have := HEF.out j hj; omega
        · have := HEF.out j hj; have := HO.out.size; have := hx.size; omega)
      clear hc hs hlen
      go_wp2_with fail
      refine (HADD.out _ ((Only.refl _ _).alloc _)).mono ?_
      rintro e w3 ⟨g', ⟨rfl, hok', hO', hf'⟩, hp', hsh', he'⟩
      have HO3 : Hid (Only g.foot wr w3) := Lib.hid (Only.trans (((Only.refl _ wr).alloc _).mono (fun _ _ f => f)) hO' (fun _ _ h => h))
      have HF3 : Hid (∀ j, g'.foot j → g.foot j ∨ wr.heap.size ≤ j) := Lib.hid (fun j hj => (hf' j hj).imp id (fun h => by simp at h; omega))
      have HE3 : Hid (Errs w3 a0 a1 a2) := Lib.hid ((HEr.out wr (Only.refl _ _)).keep HO3.out (fun j hj hf => by have := HGF.out j hf; have := HEF.out j hj; omega))
      have HG3 : Hid (g'.ok w3 ∧ g'.p = p ∧ sh g'.A = (tOf (l.take (k + 1))).S ∧ g'.e = (tOf (l.take (k + 1))).e) := Lib.hid ⟨hok', hp'.trans HP.out, by rw [hsh', HT.out, HSH.out]; rfl, by rw [he', HT.out, HSH.out, HGE.out]; rfl⟩
      have HTE : Hid ((tOf (l.take (k + 1))).es = (tOf (l.take k)).es ++ [(errS (sh g.A) v x : Int)]) := Lib.hid (by rw [HT.out, HSH.out]; rfl)
      have hle := errS_le (sh g.A) v x
      generalize errS (sh g.A) v x = q at *
      have HGR := Lib.hid (grError a0 a1 a2 q hle w3 HE3.out)
      have HOWN3 : Hid (OL 3 iv w3 ea k ec (tOf (l.take k)).es) := Lib.hid (HOWN.out.keep HO3.out (fun j hj => (HEA.out j hj).2))
      have hlea : ∀ j, At ea j → j < wr.heap.size := HOWN.out.1.lt
      have HLEA := Lib.hid hlea
      clear hok' hO' hf' hp' hsh' he' HADD hlea HE3
      generalize (tOf (l.take k)).es = es at *
      go_wp2_with fail
      refine HGR.out.mono ?_
      rintro e w4 ⟨rfl, rfl⟩
      clear HGR
      go_wp2_with (at_builtin; refine wpList_append (k + 1) (es.map iv ++ [iv (q : Int)]) rfl _ _ _ _ rfl slI rfl (HOWN3.out.1.keep (S := fun _ => False) (by repeat (first | exact Only.refl _ _ | apply Only.alloc)) (fun _ _ => id)) rfl (Src.row (size := 1) (cs := #[.int .i64 (q : Int)]) (t := 3) (fr := (0, 0)) Tryd.underlying23 (heap_alloc_new' _ _ _ (by simp)) 1 1 rfl (by simp [Value.oneCell'])) rfl rfl (by unfold maxLen; omega) (by omega) ?_)
      intro ea2 ec2 w5 hG
      have hO5 : Only (At ea) w3 w5 := Only.trans (S := At ea) ((Only.refl (At ea) w3).alloc _) hG.only (fun _ _ h => h)
      have HREL : Hid (g'.ok w5 ∧ OL 3 iv w5 ea2 (k + 1) ec2 (es ++ [(q : Int)]) ∧ Same w w5 ∧ (∀ j, g'.foot j → w.heap.size ≤ j) ∧ ∀ j, At ea2 j → w.heap.size ≤ j ∧ ¬ g'.foot j) := Lib.hid (by
        have hgf : ∀ j, g'.foot j → w.heap.size ≤ j := fun j hj => (HF3.out j hj).elim (HGF.out j) (fun h => by have := HO.out.size; omega)
        have hna : ∀ j, At ea j → ¬ g'.foot j := fun j hj hf => by
          rcases HF3.out j hf with h | h
          · exact (HEA.out j hj).2 h
          · have := HLEA.out j hj; omega
        refine ⟨HG3.out.1.keep hO5 (fun j hf hj => hna j hj hf), ⟨by have := hG.own; rwa [List.map_append], by rw [List.length_append, HOWN3.out.2]; rfl⟩, ?_, hgf, fun j hj => ?_⟩
        · exact Only.trans (Only.trans HO.out HO3.out (fun j hj h => by have := HGF.out j h; omega)) hO5 (fun j hj h => by have := (HEA.out j h).1; omega)
        · rcases hG.fresh j hj with h | h
          · exact ⟨(HEA.out j h).1, hna j h⟩
          · simp at h
            refine ⟨by have := HO.out.size; have := HO3.out.size; omega, fun hf => by have := HG3.out.1.lt j hf; omega⟩)
      clear hG hO5
      go_wp2_with fail
      go_roundw
      case rel =>
        obtain ⟨r1, r2, r3, r4, r5⟩ := HREL.out
        exact ⟨k + 1, g', ea2, ec2, by omega, by go_num, rfl, HG3.out.2.1, r1, HG3.out.2.2.1, HG3.out.2.2.2, by rw [HTE.out]; exact r2, r3, r4, r5⟩
      case measure => simp [intOf]; omega
    · obtain rfl : k = n := by omega
      have HE : Hid (l.take k = l) := Lib.hid (List.take_of_length_le (by rw [HR.out.2]; exact Nat.le_refl _))
      rw [HE.out] at HSH HGE HOWN
      have HFIN : Hid (Made l k w (.returned (.tuple #[.pointer (some ⟨p, 0, none⟩), .slice ea k ec])) wr) := Lib.hid ⟨g, ea, ec, by rw [HP.out], HOK.out, HSH.out, HGE.out, HOWN.out, HO.out, HGF.out⟩
      go_wp2_with fail
      go_ret2
      exact HFIN.out
end Go.Proofs.YtpccodjmjgfloaaDoor.gr

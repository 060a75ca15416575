/-
  The set: its object; New, Add, Remove, Clear, Len, All, Exists.
-/
import Derived.Test.YtpccodjmjgfloaaStSpec
import Derived.WalkSpells
namespace Go.Proofs.Ytpccodjmjgfloaa.st
open Go.RowKit Go.Proofs.Ytpccodjmjgfloaa.base Go.Proofs.Ytpccodjmjgfloaa.heap Go.Proofs.Ytpccodjmjgfloaa.rows Go.Proofs.Ytpccodjmjgfloaa.mapi
set_option linter.unusedVariables false

theorem slA : SliceOf Try.prog 50 20 1 16 := SliceOf.mk (z := .nilIface) Try.underlying50 (by kernel_rfl) rfl
theorem ikey : IKey Try.prog 20 3 := ⟨⟨_, Try.underlying20⟩, Try.underlying3, by
  have h : (Try.prog.info? 3).map (·.comparable) = some true := by kernel_rfl
  exact Option.map_eq_some_iff.1 h⟩
theorem zeroU (w : World) : (zeroValue 71).run Try.prog w = .ok (.agg #[]) w := by kernel_rfl
/-- an int behind interface{} -/
abbrev ai (n : Int) : Value := .iface 3 (.int .i64 n)

/-- a set's object: its block, its map's, what Flatten keeps -/
structure O where
  p : Nat
  mb : Nat
  fa : Option Addr
  fn : Nat
  fc : Nat
def O.ptr (o : O) : Value := .pointer (some ⟨o.p, 0, none⟩)
def O.cells (o : O) : Array Value := #[.map (some o.mb), .slice o.fa o.fn o.fc]
def O.foot (o : O) (k : Nat) : Prop := k = o.p ∨ k = o.mb ∨ At o.fa k
/-- what Flatten keeps: nothing, or a list -/
def O.flat (o : O) (w : World) : Option (List Int) → Prop
  | none => o.fa = none ∧ o.fn = 0 ∧ o.fc = 0
  | some F => o.fa ≠ none ∧ OL 20 ai w o.fa o.fn o.fc F
structure O.ok (o : O) (w : World) (ks : List Int) (fl : Option (List Int)) : Prop where
  obj : w.heap[o.p]? = some (.cells o.cells 70 (0, 0))
  map : MapIs 3 w o.mb (ul ks)
  ne : o.p ≠ o.mb
  fne : ∀ k, At o.fa k → k ≠ o.p ∧ k ≠ o.mb
  flat : o.flat w fl
theorem O.flat.keep {o : O} {w w' : World} {fl : Option (List Int)} {S : Nat → Prop} (h : o.flat w fl) (ho : Only S w w') (hn : ∀ k, At o.fa k → ¬ S k) : o.flat w' fl := by
  cases fl with
  | none => exact h
  | some F => exact ⟨h.1, h.2.keep ho hn⟩
theorem O.ok.keep {o : O} {w w' : World} {ks : List Int} {fl : Option (List Int)} {S : Nat → Prop} (h : o.ok w ks fl) (ho : Only S w w') (hn : ∀ k, o.foot k → ¬ S k) : o.ok w' ks fl :=
  ⟨ho.obj h.obj (hn _ (.inl rfl)), h.map.of_heap (ho.block _ h.map.lt (hn _ (.inr (.inl rfl)))), h.ne, h.fne, h.flat.keep ho (fun k hk => hn k (.inr (.inr hk)))⟩
theorem O.ok.still {o : O} {w w' : World} {ks : List Int} {fl : Option (List Int)} (h : o.ok w ks fl) (ho : Same w w') : o.ok w' ks fl := h.keep ho (fun _ _ => id)
theorem O.ok.lt {o : O} {w : World} {ks : List Int} {fl : Option (List Int)} (h : o.ok w ks fl) : ∀ k, o.foot k → k < w.heap.size := by
  rintro k (rfl | rfl | hk)
  · exact lt_of_heap h.obj
  · exact h.map.lt
  · cases fl with
    | none => have := h.flat.1; rw [this] at hk; exact hk.elim
    | some F => exact h.flat.2.1.lt k hk

/-- the set's step: what is handed back, and the object behind it -/
def Did (o : O) (w : World) (r : Value) (ks : List Int) (fl : Option (List Int)) (e : Ending) (w' : World) : Prop :=
  ∃ o' : O, e = .returned r ∧ o'.p = o.p ∧ o'.ok w' ks fl ∧ Only o.foot w w' ∧ ∀ k, o'.foot k → o.foot k ∨ w.heap.size ≤ k

theorem withL_take' (l more : List Int) (k : Nat) (x : Int) (h : more[k]? = some x) (v : Value) (hv : v = .agg #[]) : put x v (ul (withL l (more.take k))) = ul (withL l (more.take (k + 1))) := by
  subst hv
  rw [ul_put, withL_take l more k x h]
theorem runMM (w : World) : (Instr.makeMap 68 (some (.int .i64 10))).run Try.prog w = .ok (.map (some w.heap.size)) (w.alloc (.map #[] 0)) := by
  simp [Instr.makeMap, run_underlying Try.underlying68, asInt, asIntOf]

abbrev TM : Nat := 68

set_option maxRecDepth 100000 in
set_option maxHeartbeats 1600000 in
theorem new (a : Option Addr) (n cap : Nat) (l : List Int) (w : World) (h : RL ai w a n cap l) :
    Calls Try.prog 14 #[.slice a n cap] w fun e w' => ∃ o : O, e = .returned o.ptr ∧ o.ok w' (withL [] l) none ∧ Same w w' ∧ ∀ k, o.foot k → w.heap.size ≤ k := by
  have hbd := h.bound
  have HR := Lib.hid h
  clear h
  have hmm := runMM
  go_enter Try.func14, Try.ntmps14
  go_wp2_with fail
  obtain ⟨w1, hw1⟩ : ∃ w1, w1 = (w.alloc (.map #[] 0)).alloc (.cells #[.map (some w.heap.size), .slice none 0 0] 70) := ⟨_, rfl⟩
  rw [← hw1]
  have HS1 : Hid (Same w w1) := Lib.hid (by rw [hw1]; exact ((Only.refl _ w).alloc _).alloc _)
  have HM1 : Hid (MapIs 3 w1 w.heap.size (ul [])) := Lib.hid (by
    rw [hw1]
    exact (MapIs.made 3 w).of_heap (Below.heap_alloc _ _ _ (by simp)))
  have HB1 : Hid (w1.heap[w.heap.size + 1]? = some (.cells #[.map (some w.heap.size), .slice none 0 0] 70 (0, 0))) := Lib.hid (by rw [hw1]; exact heap_alloc_new' _ _ _ (by simp))
  clear hw1 hmm
  have hsz : w.heap.size ≠ w.heap.size + 1 := by omega
  generalize hpp : w.heap.size + 1 = p at *
  generalize hmm : w.heap.size = mb at *
  obtain ⟨c0, c1⟩ : w1.cell? ⟨p, 0, none⟩ = some (.map (some mb)) ∧ w1.cell? ⟨p, 1, none⟩ = some (.slice none 0 0) := ⟨block_cell HB1.out rfl, block_cell HB1.out rfl⟩
  clear c0 c1
  go_wp2_with fail
  go_loopw [5, 11] (fun _ i wr => ∃ k : Nat, k ≤ n ∧ i = .int .i64 (k : Int) ∧ MapIs 3 wr mb (ul (withL [] (l.take k))) ∧ Only (fun k => k = mb) w1 wr) (fun _ i _ => n - (intOf i).toNat)
  case atStart => exact ⟨0, Nat.zero_le _, rfl, HM1.out, Only.refl _ _⟩
  case round =>
    obtain ⟨k, hk, rfl, hM, hO⟩ := hrel
    have HM := Lib.hid hM
    have HO := Lib.hid hO
    have HSW : Hid (Same w wr) := Lib.hid (new_only HS1.out hO (fun k hk => by omega))
    have HB : Hid (wr.heap[p]? = some (.cells #[.map (some mb), .slice none 0 0] 70 (0, 0))) := Lib.hid (hO.obj HB1.out (fun e => hsz e.symm))
    have c0 : wr.cell? ⟨p, 0, none⟩ = some (.map (some mb)) := block_cell HB.out rfl
    have c1 : wr.cell? ⟨p, 1, none⟩ = some (.slice none 0 0) := block_cell HB.out rfl
    have f1 : wr.frozen? ⟨p, 1, none⟩ = false := block_free HB.out
    clear hM hO
    by_cases hlt : k < n
    · have hlt' : (k : Int) < (n : Int) := by omega
      obtain ⟨b, off, rfl, hb, hc⟩ := (HR.out.still HSW.out).at (by omega)
      obtain ⟨x, hx⟩ := HR.out.get hlt
      have d0 := hc k x hx
      have HX := Lib.hid hx
      clear hc hx
      go_wp2_with (at_mapUpdate; refine wpList_updateI rfl _ _ _ TM rfl ikey Try.underlying68 rfl x rfl _ rfl HM.out ?_; intro w2 hM2 hg2 hs2)
      have HM2 : Hid (MapIs 3 w2 mb (ul (withL [] (l.take (k + 1))))) := Lib.hid (by rw [← withL_take' [] l k x HX.out _ rfl]; exact hM2)
      have HO2 : Hid (Only (fun k => k = mb) w1 w2) := Lib.hid (HO.out.grown hg2 (fun j _ e => by cases e; rfl))
      clear hM2 hg2 hs2
      go_roundw
      case rel => exact ⟨k + 1, by omega, by go_num, HM2.out, HO2.out⟩
      case measure => simp [intOf]; omega
    · obtain rfl : k = n := by omega
      rw [List.take_of_length_le (by rw [HR.out.2]; exact Nat.le_refl _)] at HM
      by_cases h0 : 0 < k
      · have h0' : (0 : Int) < (k : Int) := by omega
        go_wp2_with fail
        go_ret
        have hO3 : Only (fun k => k = p) wr (wr.setCell ⟨p, 1, none⟩ (.slice none 0 0)) := (Only.refl (fun k => k = p) wr).setCell _ _ (fun _ => rfl)
        exact ⟨⟨p, mb, none, 0, 0⟩, rfl, ⟨setCell_heap HB.out 1 (.slice none 0 0), HM.out.of_heap (hO3.block _ HM.out.lt hsz), fun e => hsz e.symm, fun k hk => hk.elim, ⟨rfl, rfl, rfl⟩⟩, new_only HSW.out hO3 (fun k hk => by omega), fun j hj => by
          rcases hj with hj | hj | hj
          · simp only at hj; omega
          · simp only at hj; omega
          · exact hj.elim⟩
      · have h0' : ¬ (0 : Int) < (k : Int) := by omega
        go_wp2_with fail
        go_ret
        exact ⟨⟨p, mb, none, 0, 0⟩, rfl, ⟨HB.out, HM.out, fun e => hsz e.symm, fun k hk => hk.elim, ⟨rfl, rfl, rfl⟩⟩, HSW.out, fun j hj => by
          rcases hj with hj | hj | hj
          · simp only at hj; omega
          · simp only at hj; omega
          · exact hj.elim⟩

/-- the object with nothing kept of Flatten -/
def O.bare (o : O) : O := ⟨o.p, o.mb, none, 0, 0⟩
theorem O.bare_foot {o : O} {k : Nat} (h : o.bare.foot k) : k = o.p ∨ k = o.mb := by
  rcases h with h | h | h
  · exact .inl h
  · exact .inr h
  · exact h.elim

set_option maxRecDepth 100000 in
set_option maxHeartbeats 1600000 in
theorem add (o : O) (ks : List Int) (fl : Option (List Int)) (a : Option Addr) (n cap : Nat) (l : List Int) (w : World) (hok : o.ok w ks fl) (h : RL ai w a n cap l) (hd : ∀ k, At a k → ¬ o.foot k) :
    Calls Try.prog 16 #[o.ptr, .slice a n cap] w (Did o w (.tuple #[]) (withL ks l) none) := by
  have hbd := h.bound
  have HR := Lib.hid h
  have HB := Lib.hid hok.obj
  have HM := Lib.hid hok.map
  have HNE := Lib.hid hok.ne
  have HD := Lib.hid hd
  have hsz := hok.ne
  clear h hok hd
  obtain ⟨p, mb, fa, fn, fc⟩ := o
  simp only [O.ptr, O.cells] at *
  have c1 : w.cell? ⟨p, 1, none⟩ = some (.slice fa fn fc) := block_cell HB.out rfl
  have f1 : w.frozen? ⟨p, 1, none⟩ = false := block_free HB.out
  go_enter Try.func16, Try.ntmps16
  go_wp2_with fail
  obtain ⟨w1, hw1⟩ : ∃ w1, w1 = w.setCell ⟨p, 1, none⟩ (.slice none 0 0) := ⟨_, rfl⟩
  rw [← hw1]
  have HO1 : Hid (Only (fun k => k = p) w w1) := Lib.hid (by rw [hw1]; exact (Only.refl (fun k => k = p) w).setCell _ _ (fun _ => rfl))
  have HB1 : Hid (w1.heap[p]? = some (.cells #[.map (some mb), .slice none 0 0] 70 (0, 0))) := Lib.hid (by rw [hw1]; exact setCell_heap HB.out 1 (.slice none 0 0))
  have HM1 : Hid (MapIs 3 w1 mb (ul ks)) := Lib.hid (HM.out.of_heap (HO1.out.block _ HM.out.lt (fun e => hsz e.symm)))
  clear hw1 c1 f1
  go_loopw [5, 11] (fun _ i wr => ∃ k : Nat, k ≤ n ∧ i = .int .i64 (k : Int) ∧ MapIs 3 wr mb (ul (withL ks (l.take k))) ∧ Only (fun k => k = mb) w1 wr) (fun _ i _ => n - (intOf i).toNat)
  case atStart => exact ⟨0, Nat.zero_le _, rfl, HM1.out, Only.refl _ _⟩
  case round =>
    obtain ⟨k, hk, rfl, hM, hO⟩ := hrel
    have HM := Lib.hid hM
    have HO := Lib.hid hO
    have HSW : Hid (Only (fun k => k = p ∨ k = mb) w wr) := Lib.hid (Only.trans (HO1.out.mono (fun _ _ e => .inl e)) hO (fun _ _ e => .inr e))
    have HB : Hid (wr.heap[p]? = some (.cells #[.map (some mb), .slice none 0 0] 70 (0, 0))) := Lib.hid (hO.obj HB1.out hsz)
    have c0 : wr.cell? ⟨p, 0, none⟩ = some (.map (some mb)) := block_cell HB.out rfl
    clear hM hO
    by_cases hlt : k < n
    · have hlt' : (k : Int) < (n : Int) := by omega
      obtain ⟨b, off, rfl, hb, hc⟩ := (HR.out.keep HSW.out (fun j hj e => HD.out j hj (by rcases e with e | e; exact .inl e; exact .inr (.inl e)))).at (by omega)
      obtain ⟨x, hx⟩ := HR.out.get hlt
      have d0 := hc k x hx
      have HX := Lib.hid hx
      clear hc hx
      go_wp2_with (at_mapUpdate; refine wpList_updateI rfl _ _ _ TM rfl ikey Try.underlying68 rfl x rfl _ rfl HM.out ?_; intro w2 hM2 hg2 hs2)
      have HM2 : Hid (MapIs 3 w2 mb (ul (withL ks (l.take (k + 1))))) := Lib.hid (by rw [← withL_take' ks l k x HX.out _ rfl]; exact hM2)
      have HO2 : Hid (Only (fun k => k = mb) w1 w2) := Lib.hid (HO.out.grown hg2 (fun j _ e => by cases e; rfl))
      clear hM2 hg2 hs2
      go_roundw
      case rel => exact ⟨k + 1, by omega, by go_num, HM2.out, HO2.out⟩
      case measure => simp [intOf]; omega
    · obtain rfl : k = n := by omega
      rw [List.take_of_length_le (by rw [HR.out.2]; exact Nat.le_refl _)] at HM
      go_wp2_with fail
      go_end0
      exact ⟨⟨p, mb, none, 0, 0⟩, rfl, rfl, ⟨HB.out, HM.out, hsz, fun k hk => hk.elim, ⟨rfl, rfl, rfl⟩⟩, HSW.out.mono (fun j _ e => by rcases e with e | e; exact .inl e; exact .inr (.inl e)), fun j hj => by
        rcases hj with hj | hj | hj
        · exact .inl (.inl hj)
        · exact .inl (.inr (.inl hj))
        · exact hj.elim⟩

def dels (ks less : List Int) : List Int := less.foldl (fun s x => s.erase x) ks
theorem dels_eq (ks less : List Int) (h : ks.Nodup) : dels ks less = withoutL ks less := by
  induction less generalizing ks with
  | nil => exact (List.filter_eq_self.2 (by simp)).symm
  | cons x less ih =>
    show dels (ks.erase x) less = _
    rw [ih _ (h.erase x), h.erase_eq_filter]
    unfold withoutL
    rw [List.filter_filter]
    apply List.filter_congr
    intro y _
    by_cases hy : y = x <;> simp [hy, bne]

set_option maxRecDepth 100000 in
set_option maxHeartbeats 1600000 in
theorem remove (o : O) (ks : List Int) (fl : Option (List Int)) (a : Option Addr) (n cap : Nat) (l : List Int) (w : World) (hok : o.ok w ks fl) (h : RL ai w a n cap l) (hd : ∀ k, At a k → ¬ o.foot k) :
    Calls Try.prog 17 #[o.ptr, .slice a n cap] w (Did o w (.tuple #[]) (dels ks l) none) := by
  have hbd := h.bound
  have HR := Lib.hid h
  have HB := Lib.hid hok.obj
  have HM := Lib.hid hok.map
  have HNE := Lib.hid hok.ne
  have HD := Lib.hid hd
  have hsz := hok.ne
  clear h hok hd
  obtain ⟨p, mb, fa, fn, fc⟩ := o
  simp only [O.ptr, O.cells] at *
  have c1 : w.cell? ⟨p, 1, none⟩ = some (.slice fa fn fc) := block_cell HB.out rfl
  have f1 : w.frozen? ⟨p, 1, none⟩ = false := block_free HB.out
  go_enter Try.func17, Try.ntmps17
  go_wp2_with fail
  obtain ⟨w1, hw1⟩ : ∃ w1, w1 = w.setCell ⟨p, 1, none⟩ (.slice none 0 0) := ⟨_, rfl⟩
  rw [← hw1]
  have HO1 : Hid (Only (fun k => k = p) w w1) := Lib.hid (by rw [hw1]; exact (Only.refl (fun k => k = p) w).setCell _ _ (fun _ => rfl))
  have HB1 : Hid (w1.heap[p]? = some (.cells #[.map (some mb), .slice none 0 0] 70 (0, 0))) := Lib.hid (by rw [hw1]; exact setCell_heap HB.out 1 (.slice none 0 0))
  have HM1 : Hid (MapIs 3 w1 mb (ul ks)) := Lib.hid (HM.out.of_heap (HO1.out.block _ HM.out.lt (fun e => hsz e.symm)))
  clear hw1 c1 f1
  go_loopw [5, 11] (fun _ i wr => ∃ k : Nat, k ≤ n ∧ i = .int .i64 (k : Int) ∧ MapIs 3 wr mb (ul (dels ks (l.take k))) ∧ Only (fun k => k = mb) w1 wr) (fun _ i _ => n - (intOf i).toNat)
  case atStart => exact ⟨0, Nat.zero_le _, rfl, HM1.out, Only.refl _ _⟩
  case round =>
    obtain ⟨k, hk, rfl, hM, hO⟩ := hrel
    have HM := Lib.hid hM
    have HO := Lib.hid hO
    have HSW : Hid (Only (fun k => k = p ∨ k = mb) w wr) := Lib.hid (Only.trans (HO1.out.mono (fun _ _ e => .inl e)) hO (fun _ _ e => .inr e))
    have HB : Hid (wr.heap[p]? = some (.cells #[.map (some mb), .slice none 0 0] 70 (0, 0))) := Lib.hid (hO.obj HB1.out hsz)
    have c0 : wr.cell? ⟨p, 0, none⟩ = some (.map (some mb)) := block_cell HB.out rfl
    clear hM hO
    by_cases hlt : k < n
    · have hlt' : (k : Int) < (n : Int) := by omega
      obtain ⟨b, off, rfl, hb, hc⟩ := (HR.out.keep HSW.out (fun j hj e => HD.out j hj (by rcases e with e | e; exact .inl e; exact .inr (.inl e)))).at (by omega)
      obtain ⟨x, hx⟩ := HR.out.get hlt
      have d0 := hc k x hx
      have HX := Lib.hid hx
      clear hc hx
      go_wp2_with (at_delete; refine wpList_deleteI rfl _ _ TM 20 rfl ikey Try.underlying68 rfl x rfl HM.out ?_; intro w2 hM2 hg2 hs2)
      have HM2 : Hid (MapIs 3 w2 mb (ul (dels ks (l.take (k + 1))))) := Lib.hid (by
        rw [take_snoc l k x HX.out, dels, List.foldl_append]
        have := hM2
        rw [ul_del] at this
        exact this)
      have HO2 : Hid (Only (fun k => k = mb) w1 w2) := Lib.hid (HO.out.grown hg2 (fun j _ e => by cases e; rfl))
      clear hM2 hg2 hs2
      go_roundw
      case rel => exact ⟨k + 1, by omega, by go_num, HM2.out, HO2.out⟩
      case measure => simp [intOf]; omega
    · obtain rfl : k = n := by omega
      rw [List.take_of_length_le (by rw [HR.out.2]; exact Nat.le_refl _)] at HM
      go_wp2_with fail
      go_end0
      exact ⟨⟨p, mb, none, 0, 0⟩, rfl, rfl, ⟨HB.out, HM.out, hsz, fun k hk => hk.elim, ⟨rfl, rfl, rfl⟩⟩, HSW.out.mono (fun j _ e => by rcases e with e | e; exact .inl e; exact .inr (.inl e)), fun j hj => by
        rcases hj with hj | hj | hj
        · exact .inl (.inl hj)
        · exact .inl (.inr (.inl hj))
        · exact hj.elim⟩

set_option maxHeartbeats 800000 in
theorem clearS (o : O) (ks : List Int) (fl : Option (List Int)) (w : World) (hok : o.ok w ks fl) :
    Calls Try.prog 18 #[o.ptr] w (Did o w (.tuple #[]) [] fl) := by
  have HB := Lib.hid hok.obj
  have HFN := Lib.hid hok.fne
  have HFL := Lib.hid hok.flat
  have HLT := Lib.hid hok.lt
  clear hok
  obtain ⟨p, mb, fa, fn, fc⟩ := o
  simp only [O.ptr, O.cells] at *
  have hp := lt_of_heap HB.out
  obtain ⟨w1, hw1⟩ : ∃ w1, w1 = w.alloc (.map #[] 0) := ⟨_, rfl⟩
  have HS1 : Hid (Same w w1) := Lib.hid (by rw [hw1]; exact (Only.refl _ w).alloc _)
  have HB1 : Hid (w1.heap[p]? = some (.cells #[.map (some mb), .slice fa fn fc] 70 (0, 0))) := Lib.hid (heap_still HS1.out HB.out)
  have HM1 : Hid (MapIs 3 w1 w.heap.size (ul [])) := Lib.hid (by rw [hw1]; exact MapIs.made 3 w)
  have c1 : w1.cell? ⟨p, 0, none⟩ = some (.map (some mb)) := block_cell HB1.out rfl
  have f1 : w1.frozen? ⟨p, 0, none⟩ = false := block_free HB1.out
  have hmm : (Instr.makeMap TM none).run Try.prog w = .ok (.map (some w.heap.size)) w1 := by rw [hw1]; exact run_makeMap TM w
  clear hw1
  go_enter Try.func18, Try.ntmps18
  go_wp2_with fail
  go_end0
  have hO : Only (fun k => k = p) w1 (w1.setCell ⟨p, 0, none⟩ (.map (some w.heap.size))) := (Only.refl (fun k => k = p) w1).setCell _ _ (fun _ => rfl)
  exact ⟨⟨p, w.heap.size, fa, fn, fc⟩, rfl, rfl, ⟨setCell_heap HB1.out 0 (.map (some w.heap.size)), HM1.out.of_heap (hO.block _ HM1.out.lt (by omega)), by show p ≠ w.heap.size; omega, fun k hk => ⟨(HFN.out k hk).1, by have := HLT.out k (.inr (.inr hk)); show k ≠ w.heap.size; omega⟩, O.flat.keep (O.flat.keep (o := ⟨p, w.heap.size, fa, fn, fc⟩) (w := w) HFL.out HS1.out (fun _ _ => id)) hO (fun k hk e => (HFN.out k hk).1 e)⟩,
    Only.trans (S := O.foot ⟨p, mb, fa, fn, fc⟩) (HS1.out.mono (fun _ _ f => f.elim)) hO (fun k _ e => .inl e), fun j hj => by
      rcases hj with hj | hj | hj
      · exact .inl (.inl hj)
      · right; simp only at hj; omega
      · exact .inl (.inr (.inr hj))⟩

set_option maxHeartbeats 800000 in
theorem lenS (o : O) (ks : List Int) (fl : Option (List Int)) (w : World) (hok : o.ok w ks fl) (n : Nat) (hn : ks.length = n) :
    Calls Try.prog 19 #[o.ptr] w fun e w' => e = .returned (.int .i64 (n : Int)) ∧ w = w' := by
  have HB := Lib.hid hok.obj
  have HM := Lib.hid hok.map
  have HN := Lib.hid hn
  clear hok hn
  obtain ⟨p, mb, fa, fn, fc⟩ := o
  simp only [O.ptr, O.cells] at *
  have c0 : w.cell? ⟨p, 0, none⟩ = some (.map (some mb)) := block_cell HB.out rfl
  go_enter Try.func19, Try.ntmps19
  go_wp2_with (at_len; refine wpList_lenI rfl _ TM rfl Try.underlying68 rfl HM.out n (by rw [ul_len]; exact HN.out) ?_)
  go_ret
  exact ⟨rfl, rfl⟩

set_option maxHeartbeats 800000 in
theorem existsS (o : O) (ks : List Int) (fl : Option (List Int)) (w : World) (hok : o.ok w ks fl) (x : Int) :
    Calls Try.prog 22 #[o.ptr, ai x] w (FV w (.bool (decide (x ∈ ks)))) := by
  have HB := Lib.hid hok.obj
  have HM := Lib.hid hok.map
  clear hok
  obtain ⟨p, mb, fa, fn, fc⟩ := o
  simp only [O.ptr, O.cells] at *
  have c0 : w.cell? ⟨p, 0, none⟩ = some (.map (some mb)) := block_cell HB.out rfl
  have HV : Hid ((if true = true then Value.tuple #[(get x (ul ks)).getD (.agg #[]), .bool (get x (ul ks)).isSome] else (get x (ul ks)).getD (.agg #[])) = .tuple #[.agg #[], .bool (decide (x ∈ ks))]) := Lib.hid (by rw [if_pos rfl, ul_get, ul_getD])
  generalize decide (x ∈ ks) = bb at *
  go_enter Try.func22, Try.ntmps22
  go_wp2_with (at_lookup; refine wpList_lookupI rfl _ _ TM true rfl ikey Try.underlying68 (zeroU _) rfl x rfl HM.out _ HV.out ?_)
  go_ret
  exact ⟨rfl, (Only.refl _ w).alloc _⟩

set_option maxRecDepth 100000 in
set_option maxHeartbeats 1600000 in
theorem allS (o : O) (ks : List Int) (fl : Option (List Int)) (a : Option Addr) (n cap : Nat) (l : List Int) (w : World) (hok : o.ok w ks fl) (h : RL ai w a n cap l) :
    Calls Try.prog 20 #[o.ptr, .slice a n cap] w (FV w (.bool (decide (∀ x ∈ l, x ∈ ks)))) := by
  have hbd := h.bound
  have HR := Lib.hid h
  have HOK := Lib.hid hok
  clear h hok
  obtain ⟨p, mb, fa, fn, fc⟩ := o
  simp only [O.ptr] at *
  go_enter Try.func20, Try.ntmps20
  go_wp2_with fail
  go_loopw [6, 7, 8, 11, 15] (fun _ _ _ i _ wr => ∃ k : Nat, k ≤ n ∧ i = .int .i64 (k : Int) ∧ (∀ x ∈ l.take k, x ∈ ks) ∧ Same w wr) (fun _ _ _ i _ _ => n - (intOf i).toNat)
  case atStart => exact ⟨0, Nat.zero_le _, rfl, by simp, Only.refl _ _⟩
  case round =>
    obtain ⟨k, hk, rfl, hA, hO⟩ := hrel
    have HA := Lib.hid hA
    have HO := Lib.hid hO
    have HB := Lib.hid (HOK.out.still hO).obj
    have HM := Lib.hid (HOK.out.still hO).map
    simp only [O.cells] at HB HM
    have c0 : wr.cell? ⟨p, 0, none⟩ = some (.map (some mb)) := block_cell HB.out rfl
    clear hA hO
    by_cases hlt : k < n
    · have hlt' : (k : Int) < (n : Int) := by omega
      obtain ⟨b, off, rfl, hb, hc⟩ := (HR.out.still HO.out).at (by omega)
      obtain ⟨x, hx⟩ := HR.out.get hlt
      have d0 := hc k x hx
      have HX := Lib.hid hx
      clear hc hx
      have HV : Hid ((if true = true then Value.tuple #[(get x (ul ks)).getD (.agg #[]), .bool (get x (ul ks)).isSome] else (get x (ul ks)).getD (.agg #[])) = .tuple #[.agg #[], .bool (decide (x ∈ ks))]) := Lib.hid (by rw [if_pos rfl, ul_get, ul_getD])
      by_cases hm : x ∈ ks
      · rw [decide_eq_true hm] at HV
        have HA2 : Hid (∀ y ∈ l.take (k + 1), y ∈ ks) := Lib.hid (by
          rw [take_snoc l k x HX.out]
          intro y hy
          rcases List.mem_append.1 hy with hy | hy
          · exact HA.out y hy
          · simp at hy; subst hy; exact hm)
        clear hm
        go_wp2_with (at_lookup; refine wpList_lookupI rfl _ _ TM true rfl ikey Try.underlying68 (zeroU _) rfl x rfl HM.out _ HV.out ?_)
        go_roundw
        case rel => exact ⟨k + 1, by omega, by go_num, HA2.out, HO.out.alloc _⟩
        case measure => simp [intOf]; omega
      · rw [decide_eq_false hm] at HV
        have HD : Hid (decide (∀ x ∈ l, x ∈ ks) = false) := Lib.hid (decide_eq_false (fun h => hm (h x (List.mem_of_getElem? HX.out))))
        clear hm
        go_wp2_with (at_lookup; refine wpList_lookupI rfl _ _ TM true rfl ikey Try.underlying68 (zeroU _) rfl x rfl HM.out _ HV.out ?_)
        go_ret
        exact ⟨by rw [HD.out]; rfl, HO.out.alloc _⟩
    · obtain rfl : k = n := by omega
      have HD : Hid (decide (∀ x ∈ l, x ∈ ks) = true) := Lib.hid (decide_eq_true (by have := HA.out; rwa [List.take_of_length_le (by rw [HR.out.2]; exact Nat.le_refl _)] at this))
      go_wp2_with fail
      go_ret
      exact ⟨by rw [HD.out]; rfl, HO.out⟩
end Go.Proofs.Ytpccodjmjgfloaa.st

/-
  cutNode: an entry is cut off its parent, and marked ancestors after it.
-/
import Derived.Test.YtpddddjfjmipfaaFhHp
import Derived.LaidEqlPtr
namespace Go.Proofs.Ytpddddjfjmipfaa.fh
open Go.RowKit Go.Proofs.Ytpddddjfjmipfaa.base Go.Proofs.Ytpddddjfjmipfaa.heap Go.Proofs.Ytpddddjfjmipfaa.rows Go.Proofs.Ytpddddjfjmipfaa.flt
set_option linter.unusedVariables false

inductive Anc (pa : Nat → Option Nat) : Nat → Nat → Prop
  | one {y x : Nat} : pa y = some x → Anc pa y x
  | more {y z x : Nat} : Anc pa y z → pa z = some x → Anc pa y x
theorem anc_head {pa : Nat → Option Nat} {y x : Nat} (h : Anc pa y x) : ∃ z, pa y = some z ∧ (z = x ∨ Anc pa z x) := by
  induction h with
  | one h => exact ⟨_, h, .inl rfl⟩
  | more _ h2 ih =>
    obtain ⟨z, h3, h4⟩ := ih
    refine ⟨z, h3, .inr ?_⟩
    rcases h4 with rfl | h4
    · exact .one h2
    · exact .more h4 h2
theorem up_anc {pa : Nat → Option Nat} {y : Nat} (h : UpF pa y) : ¬ Anc pa y y := by
  induction h with
  | root h =>
    intro ha
    obtain ⟨z, h1, _⟩ := anc_head ha
    rw [h] at h1; cases h1
  | step h _ ih =>
    intro ha
    obtain ⟨z, h1, h2⟩ := anc_head ha
    rw [h] at h1
    cases h1
    rcases h2 with rfl | h2
    · exact ih ha
    · exact ih (.more h2 h)
theorem put_put {α : Type} (g : Nat → α) (x : Nat) (u v : α) : put (put g x u) x v = put g x v := by
  funext y
  by_cases e : y = x
  · subst e; rw [put_same, put_same]
  · rw [put_other e, put_other e, put_other e]
theorem put_comm {α : Type} (g : Nat → α) {x y : Nat} (u v : α) (h : x ≠ y) : put (put g x u) y v = put (put g y v) x u := by
  funext z
  by_cases e : z = y
  · subst e; rw [put_same, put_other (fun e => h e.symm), put_same]
  · rw [put_other e]
    by_cases e2 : z = x
    · subst e2; rw [put_same, put_same]
    · rw [put_other e2, put_other e2, put_other e]

/-- a heap in the course of cutting -/
structure CutS (w : World) (hb : Nat) (F : Fs) (G : Gs) (A X : List Nat) (m n : Nat) : Prop where
  obj : HObj w hb (some m) n
  mem : Mem w F (· ∈ A)
  fo : Fo F G A X
  least : Least F G m
  nin : hb ∉ A
/-- what cutNode leaves -/
def CuP (hb : Nat) (F : Fs) (A X : List Nat) (n x : Nat) (w : World) (e : Ending) (w' : World) : Prop :=
  e = .returned (.tuple #[]) ∧ ∃ F' G' m', CutS w' hb F' G' A X m' n ∧ Ord F' G' (fun _ => False) ∧ F'.pr = F.pr ∧ x ∈ G' .root ∧ Only (Fp hb A) w w'

set_option maxRecDepth 100000 in
theorem cut_root (hb x m n : Nat) (F : Fs) (G : Gs) (A X : List Nat) (w : World) (h : CutS w hb F G A X m n) (hx : x ∈ A) (ho : Ord F G (fun b => b = x)) (hpa : F.pa x = none) :
    Calls Try.prog 54 #[pp hb, pp x] w (CuP hb F A X n x w) := by
  have c0 := h.mem.mrk hx
  have c1 := h.mem.pa hx
  rw [hpa] at c1
  replace c1 : w.cell? ⟨x, 5, none⟩ = some (.pointer none) := c1
  have f0 := h.mem.fr hx
  have HF : Hid (CuP hb F A X n x w (.returned (.tuple #[])) (w.setCell ⟨x, 1, none⟩ (.bool false))) := Lib.hid (by
    have hO : Only (fun k => k = x) w (w.setCell ⟨x, 1, none⟩ (.bool false)) := (Only.refl (fun k => k = x) w).setCell ⟨x, 1, none⟩ _ (fun _ => rfl)
    have hne : hb ≠ x := fun e => h.nin (e ▸ hx)
    refine ⟨rfl, { F with mrk := put F.mrk x false }, G, m, ⟨h.obj.keep hO hne, h.mem.setMk hx false, ?_, h.least, h.nin⟩, fun p b hbk _ => ho p b hbk ?_, rfl, ?_, hO.mono (fun k _ e => .inr (by rw [show k = x from e]; exact hx))⟩
    · exact ⟨h.fo.rings, h.fo.tmp, h.fo.nodup, h.fo.all, h.fo.kidpa, h.fo.rootpa, h.fo.pend, h.fo.kids, h.fo.ch, h.fo.deg, h.fo.up, h.fo.fin⟩
    · intro e
      have := h.fo.kidpa p b hbk
      rw [show b = x from e, hpa] at this; cases this
    · rcases (h.fo.all x).1 hx with h1 | ⟨q, h1⟩
      · exact h1
      · have := h.fo.kidpa q x h1
        rw [hpa] at this; cases this)
  generalize F.mrk x = mk0 at c0
  clear h ho hpa
  go_enter Try.func54, Try.ntmps54
  go_wp2_with fail
  refine bodyPost_ret (results_none rfl _ _ _) rfl ?_
  exact HF.out

/-- x stands alone below p, or not -/
theorem ct_alone {F : Fs} {x p : Nat} (h1 : F.nx x = x) (h2 : F.pv x = x) (h3 : F.ch p = some x) : CtF F x p = { F with mrk := put F.mrk x false, nx := put F.nx x x, pv := put F.pv x x, ch := put F.ch p none, deg := put F.deg p (F.deg p - 1) } := by
  unfold CtF chCut
  rw [h1, h2, put_put, put_put, if_pos h3, if_pos rfl]
theorem ct_head {F : Fs} {x p : Nat} (h1 : F.nx x ≠ x) (h3 : F.ch p = some x) : CtF F x p = { F with mrk := put F.mrk x false, nx := put (put F.nx (F.pv x) (F.nx x)) x x, pv := put (put F.pv (F.nx x) (F.pv x)) x x, ch := put F.ch p (some (F.nx x)), deg := put F.deg p (F.deg p - 1) } := by
  unfold CtF chCut
  rw [if_pos h3, if_neg h1]
theorem ct_other {F : Fs} {x p : Nat} (h3 : F.ch p ≠ some x) : CtF F x p = { F with mrk := put F.mrk x false, nx := put (put F.nx (F.pv x) (F.nx x)) x x, pv := put (put F.pv (F.nx x) (F.pv x)) x x, deg := put F.deg p (F.deg p - 1) } := by
  unfold CtF chCut
  rw [if_neg h3]
/-- a block that is there -/
def Liv (w : World) (b : Nat) : Prop := ∃ c t, w.heap[b]? = some (.cells c t (0, 0))
theorem Liv.drew {w : World} {b : Nat} (h : Liv w b) : Liv w.drew b := h
theorem Liv.set {w : World} {b : Nat} (h : Liv w b) (b' j : Nat) (v : Value) : Liv (w.setCell ⟨b', j, none⟩ v) b := by
  obtain ⟨c, t, hb⟩ := h
  by_cases e : b = b'
  · subst e; exact ⟨_, t, setCell_heap hb j v⟩
  · exact ⟨c, t, ((Only.refl (fun k => k = b') w).setCell ⟨b', j, none⟩ v (fun _ => rfl)).obj hb e⟩
theorem Liv.keep {S : Nat → Prop} {w w' : World} {b : Nat} (h : Liv w b) (ho : Only S w w') (hn : ¬ S b) : Liv w' b := by
  obtain ⟨c, t, hb⟩ := h
  exact ⟨c, t, ho.obj hb hn⟩
theorem Mem.liv {w : World} {F : Fs} {P : Nat → Prop} {b : Nat} (h : Mem w F P) (hb : P b) : Liv w b := ⟨_, _, h b hb⟩
theorem eql_pp {w : World} {u x : Nat} (hu : Liv w u) (hx : Liv w x) : (binOp .eql 45 (pp u) (pp x)).run Try.prog w = .ok (.bool (u == x)) w := by
  obtain ⟨i, hi, hsz⟩ : ∃ i, Try.prog.info? 84 = some i ∧ i.size ≠ 0 := by
    obtain ⟨i, hi, h1⟩ : ∃ i, Try.prog.info? 84 = some i ∧ i.size = 7 := by
      have h : (Try.prog.info? 84).map (fun i => i.size) = some 7 := by kernel_rfl
      cases hc : Try.prog.info? 84 with
      | none => rw [hc] at h; cases h
      | some i => rw [hc] at h; exact ⟨i, rfl, by simpa using h⟩
    exact ⟨i, hi, by omega⟩
  by_cases e : u = x
  · subst e
    rw [beq_self_eq_true]
    exact run_eql_ptr_same w _ Try.underlying45 hi
  · obtain ⟨c1, t1, h1⟩ := hu
    obtain ⟨c2, t2, h2⟩ := hx
    rw [show (u == x) = false by simpa using e]
    exact run_eql_ptr_other w Try.underlying45 hi hsz (fun h => e (by cases h; rfl)) h1 h2
theorem info_E : ∃ i, Try.prog.info? 84 = some i ∧ i.size ≠ 0 := by
  have h : (Try.prog.info? 84).map (fun i => i.size) = some 7 := by kernel_rfl
  cases hc : Try.prog.info? 84 with
  | none => rw [hc] at h; cases h
  | some i =>
    rw [hc] at h
    have h2 : i.size = 7 := by simpa using h
    exact ⟨i, rfl, by omega⟩
theorem neq_pp {w : World} {u x : Nat} (hu : Liv w u) (hx : Liv w x) : (binOp .neq 45 (pp u) (pp x)).run Try.prog w = .ok (.bool (!(u == x))) w := by
  obtain ⟨i, hi, hsz⟩ := info_E
  by_cases e : u = x
  · subst e
    rw [beq_self_eq_true]
    have h : ∀ d : Nat, (Op.equalIn (d + 1) 45 (pp u) (pp u)).run Try.prog w = .ok true w := fun d => by
      simp [Op.equalIn, run_underlying Try.underlying45, sizeOf, typeInfo, hi, run_sameAddr_same]
    simp only [binOp]
    simp [Op.equal, Op.maxDepth, h 9999]
  · obtain ⟨c1, t1, h1⟩ := hu
    obtain ⟨c2, t2, h2⟩ := hx
    rw [show (u == x) = false by simpa using e]
    have hne : (⟨u, 0, none⟩ : Addr) ≠ ⟨x, 0, none⟩ := fun h => e (by cases h; rfl)
    have h : ∀ d : Nat, (Op.equalIn (d + 1) 45 (pp u) (pp x)).run Try.prog w = .ok false w := fun d => by
      simp [Op.equalIn, run_underlying Try.underlying45, sizeOf, typeInfo, hi, hsz, run_sameAddr_other w hne h1 h2]
    simp only [binOp]
    simp [Op.equal, Op.maxDepth, h 9999]

/-- behind the rewiring, ahead of the merge -/
def Mid (hb : Nat) (F : Fs) (A : List Nat) (x p m n : Nat) (w wx : World) : Prop := Mem wx (CtF F x p) (· ∈ A) ∧ HObj wx hb (some m) n ∧ Only (Fp hb A) w wx
/-- behind the merge -/
def Aft (hb : Nat) (F F3 : Fs) (A X : List Nat) (z x n : Nat) (w wx : World) : Prop := ∃ G3, CutS wx hb F3 G3 A (x :: X) z n ∧ Ord F3 G3 (fun _ => False) ∧ Only (Fp hb A) w wx
section
variable {hb x p m n : Nat} {F : Fs} {G : Gs} {A X : List Nat} {w wx : World}
theorem cut_merge (h : CutS w hb F G A X m n) (hx : x ∈ G (.kid p)) (ho : Ord F G (fun b => b = x)) (hm : Mid hb F A x p m n w wx) :
    ∃ z F3, F3.pa = F.pa ∧ F3.pr = F.pr ∧ Calls Try.prog 40 #[pp m, pp x] wx fun e w3 => e = .returned (pp z) ∧ HObj w3 hb (some m) n ∧ ∀ w4, w4 = w3.setCell ⟨hb, 0, none⟩ (pp z) → Aft hb F F3 A X z x n w w4 := by
  obtain ⟨hM, hO, hOnly⟩ := hm
  have hxA := h.fo.mem hx
  have hmA := h.fo.mem h.least.1
  have hmx : m ≠ x := fun e => by have := h.fo.rings.disj _ _ m h.least.1 (e ▸ hx); cases this
  have hpk := ring_pv_mem (h.fo.rings.ring (.kid p)) x hx
  have hmv : m ≠ F.pv x := fun e => by have := h.fo.rings.disj _ _ m h.least.1 (e ▸ hpk); cases this
  have e1 : (CtF F x p).nx m = F.nx m := by
    show put (put F.nx (F.pv x) (F.nx x)) x x m = _
    rw [put_other hmx, put_other hmv]
  have e2 : (CtF F x p).nx x = x := put_same
  have hnm : F.nx m ∈ G .root := ring_nx_mem (h.fo.rings.ring .root) m h.least.1
  have hnx : F.nx m ≠ x := fun e => by have := h.fo.rings.disj _ _ x (e ▸ hnm) hx; cases this
  have hc := merge2 m x (CtF F x p) (· ∈ A) wx hM hmA hxA (by rw [e1]; exact h.fo.mem hnm) (by rw [e2]; exact hxA) hmx (by rw [e1, e2]; exact hnx) (h.fo.fin m hmA) (h.fo.fin x hxA)
  obtain ⟨G3, fo3, hr3, hk3⟩ := h.fo.cut hx h.least.1
  refine ⟨if fval (F.pr m) < fval (F.pr x) then m else x, Mg (CtF F x p) m x, rfl, rfl, hc.mono ?_⟩
  rintro e w3 ⟨he, hM3, hO3⟩
  have hO3' : HObj w3 hb (some m) n := hO.keep hO3 h.nin
  refine ⟨he, hO3', ?_⟩
  rintro w4 rfl
  have hOs : Only (fun k => k = hb) w3 (w3.setCell ⟨hb, 0, none⟩ (pp (if fval (F.pr m) < fval (F.pr x) then m else x))) := (Only.refl (fun k => k = hb) w3).setCell ⟨hb, 0, none⟩ _ (fun _ => rfl)
  refine ⟨G3, ⟨hO3'.set0 (some _), hM3.keep hOs (fun k hk e => h.nin (by rw [← (show k = hb from e)]; exact hk)), fo3, ⟨?_, fun r hr => ?_⟩, h.nin⟩, fun q b hb _ => ?_, (hOnly.trans hO3 (fun k _ hk => .inr hk)).trans hOs (fun k _ hk => .inl hk)⟩
  · rw [hr3]
    split
    · exact .inl h.least.1
    · exact .inr rfl
  · show fval (F.pr _) ≤ fval (F.pr r)
    rcases (hr3 r).1 hr with h1 | rfl
    · have := h.least.2 r h1
      split <;> omega
    · split <;> omega
  · show fval (F.pr q) ≤ fval (F.pr b)
    have hbk := hk3 q b hb
    refine ho q b hbk (fun e => ?_)
    have hroot : b ∈ G3 .root := (hr3 b).2 (.inr e)
    have := fo3.rings.disj _ _ b hroot hb
    cases this
/-- the entry forgets its parent -/
theorem cut_end {F5 : Fs} {G5 : Gs} {m5 : Nat} {w5 : World} (h : CutS w5 hb F5 G5 A (x :: X) m5 n) (ho : Ord F5 G5 (fun _ => False)) (hpr : F5.pr = F.pr) (hO : Only (Fp hb A) w w5) (hx : x ∈ A) (hX : x ∉ X) :
    CuP hb F A X n x w (.returned (.tuple #[])) (w5.setCell ⟨x, 5, none⟩ (.pointer none)) := by
  have hO6 : Only (fun k => k = x) w5 (w5.setCell ⟨x, 5, none⟩ (.pointer none)) := (Only.refl (fun k => k = x) w5).setCell ⟨x, 5, none⟩ _ (fun _ => rfl)
  refine ⟨rfl, { F5 with pa := put F5.pa x none }, G5, m5, ⟨h.obj.keep hO6 (fun e => h.nin (e ▸ hx)), h.mem.setPa hx none, h.fo.cut8 hX, h.least, h.nin⟩, ho, hpr, h.fo.pend x (by simp), hO.trans hO6 (fun k _ e => .inr (by rw [show k = x from e]; exact hx))⟩
theorem fo_mrk {F5 : Fs} {G5 : Gs} {Y : List Nat} (h : Fo F5 G5 A Y) (mr : Nat → Bool) : Fo { F5 with mrk := mr } G5 A Y :=
  ⟨h.rings, h.tmp, h.nodup, h.all, h.kidpa, h.rootpa, h.pend, h.kids, h.ch, h.deg, h.up, h.fin⟩
end
/-- the parent may be cut off, too -/
def Rec (hb p n : Nat) (F : Fs) (A X : List Nat) : Prop := ∀ w' F' G' m', F'.pa = F.pa → F'.pr = F.pr → CutS w' hb F' G' A X m' n → Ord F' G' (fun _ => False) → Calls Try.prog 54 #[pp hb, pp p] w' (CuP hb F' A X n p w')

set_option maxRecDepth 100000 in
set_option maxHeartbeats 3200000 in
theorem cut_B (hb x p m n d u v c : Nat) (F : Fs) (G : Gs) (A X : List Nat) (w : World) (h : CutS w hb F G A X m n) (hx : x ∈ G (.kid p)) (ho : Ord F G (fun b => b = x)) (hxp : x ≠ p) (hX : x ∉ X)
    (hu : F.nx x = u) (hv : F.pv x = v) (hc : F.ch p = some c) (hd : F.deg p = (d : Int)) (hd0 : d < 1000000) (hux : u ≠ x) (hvx : v ≠ x) (hcx : x = c) (HA : Rec hb p n F A (x :: X)) :
    Calls Try.prog 54 #[pp hb, pp x] w (CuP hb F A X n x w) := by
  subst hcx
  have hxA := h.fo.mem hx
  have hpA := h.fo.kids p x hx
  have hpa := h.fo.kidpa p x hx
  have hring := h.fo.rings.ring (.kid p)
  have hnk := ring_nx_mem hring x hx
  have hpk := ring_pv_mem hring x hx
  have hnA := h.fo.mem hnk
  have hqA := h.fo.mem hpk
  have hcA : x ∈ A := by
    rcases h.fo.ch p hpA with ⟨h1, _⟩ | ⟨c', h1, h2⟩
    · rw [hc] at h1; cases h1
    · rw [hc] at h1; cases h1; exact h.fo.mem h2
  have hbx : hb ≠ x := fun e => h.nin (e ▸ hxA)
  have hbp : hb ≠ p := fun e => h.nin (e ▸ hpA)
  have c0 := h.mem.mrk hxA
  have c1 := h.mem.nx hxA
  have c2 := h.mem.pv hxA
  have c3 := h.mem.pa hxA
  have c4 := h.mem.ch hpA
  have c5 := h.mem.deg hpA
  have f0 := h.mem.fr hxA
  have f1 := h.mem.fr hpA
  have fh := h.obj.fr
  have f2 := h.mem.fr hnA
  have f3 := h.mem.fr hqA
  have c6 := h.mem.pv hnA
  have c7 := h.mem.nx hqA
  have ch0 := h.obj.c0
  rw [hpa] at c3
  rw [hc] at c4
  rw [hu] at c1 f2 c6
  rw [hv] at c2 f3 c7
  rw [hd] at c5
  replace c3 : w.cell? ⟨x, 5, none⟩ = some (pp p) := c3
  replace c4 : w.cell? ⟨p, 4, none⟩ = some (pp x) := c4
  replace ch0 : w.cell? ⟨hb, 0, none⟩ = some (pp m) := ch0
  have d1 : (d : Int) - 1 = ((d - 1 : Nat) : Int) := by
    have := h.fo.deg p hpA
    have hl : 0 < (G (.kid p)).length := List.length_pos_of_mem hx
    omega
  obtain ⟨d', hd'⟩ : ∃ d', d - 1 = d' := ⟨_, rfl⟩
  rw [hd'] at d1
  have d2 : IntKind.i64.wrap (d' : Int) = (d' : Int) := IntWalk.i64_in _ (by omega)
  have Lx : Liv w x := h.mem.liv hxA
  have Lu : Liv w u := by rw [← hu]; exact h.mem.liv hnA
  have Lc : Liv w x := h.mem.liv hcA
  have hOA : ∀ k, k ∈ A → Fp hb A k := fun k hk => .inr hk
  have hN : ∀ k, k ∈ A → k ≠ hb := fun k hk e => h.nin (e ▸ hk)
  have HMID : Hid (∀ wx, wx = (((((((w.setCell ⟨x, 1, none⟩ (.bool false)).setCell ⟨u, 3, none⟩ (pp v)).setCell ⟨v, 2, none⟩ (pp u)).setCell ⟨p, 4, none⟩ (pp u)).setCell ⟨p, 0, none⟩ (.int .i64 (d' : Int))).setCell ⟨x, 3, none⟩ (pp x)).setCell ⟨x, 2, none⟩ (pp x)).drew.drew.drew → Mid hb F A x p m n w wx) := Lib.hid (by
    rintro wx rfl
    have huA : u ∈ A := by rw [← hu]; exact hnA
    have hvA : v ∈ A := by rw [← hv]; exact hqA
    have hO : Only (· ∈ A) w ((((((((w.setCell ⟨x, 1, none⟩ (.bool false)).setCell ⟨u, 3, none⟩ (pp v)).setCell ⟨v, 2, none⟩ (pp u)).setCell ⟨p, 4, none⟩ (pp u)).setCell ⟨p, 0, none⟩ (.int .i64 (d' : Int))).setCell ⟨x, 3, none⟩ (pp x)).setCell ⟨x, 2, none⟩ (pp x)).drew.drew.drew) := ((((((((((Only.refl (· ∈ A) w).setCell ⟨x, 1, none⟩ _ (fun _ => hxA)).setCell ⟨u, 3, none⟩ _ (fun _ => huA)).setCell ⟨v, 2, none⟩ _ (fun _ => hvA)).setCell ⟨p, 4, none⟩ _ (fun _ => hpA)).setCell ⟨p, 0, none⟩ _ (fun _ => hpA)).setCell ⟨x, 3, none⟩ _ (fun _ => hxA)).setCell ⟨x, 2, none⟩ _ (fun _ => hxA)).drew).drew).drew
    refine ⟨?_, HObj.keep h.obj hO h.nin, hO.mono (fun k _ hk => hOA k hk)⟩
    rw [ct_head (by rw [hu]; exact hux) hc, hu, hv, hd, d1]
    exact ((((((((((h.mem).setMk hxA false).setPv huA v).setNx hvA u).setCh hpA (some u)).setDeg hpA (d' : Int)).setPv hxA x).setNx hxA x).drew).drew).drew)
  have HH := Lib.hid h
  have HO := Lib.hid ho
  have HHA := Lib.hid HA
  have HXA := Lib.hid (And.intro hxA (And.intro hpA hX))
  have HK := Lib.hid hx
  generalize F.mrk x = mk0 at c0
  generalize F.pv (F.nx x) = pn at c6
  generalize F.nx (F.pv x) = np at c7
  clear h hx ho HA hpa hring hnk hpk hnA hqA hcA hd' hOA hN hX hxA hpA
  go_enter Try.func54, Try.ntmps54
  go_wp2_with fail
  rw [neq_pp (Lu.set _ _ _) (Lx.set _ _ _), show (!(u == x)) = true by simpa using hux]
  go_wp2_with fail
  go_region
  go_wp2_with fail
  go_region
  go_wp2_with fail
  rw [eql_pp (u := x) (x := x) (((((Lx.set _ _ _).set _ _ _).set _ _ _).drew).drew) (((((Lx.set _ _ _).set _ _ _).set _ _ _).drew).drew), beq_self_eq_true]
  go_wp2_with fail
  rw [neq_pp (u := u) (x := x) (((((Lu.set _ _ _).set _ _ _).set _ _ _).drew).drew) (((((Lx.set _ _ _).set _ _ _).set _ _ _).drew).drew), show (!(u == x)) = true by simpa using hux]
  go_wp2_with fail
  go_region
  go_upto_region 12 with fail
  obtain ⟨wx, hwx⟩ : ∃ wx, wx = (((((((w.setCell ⟨x, 1, none⟩ (.bool false)).setCell ⟨u, 3, none⟩ (pp v)).setCell ⟨v, 2, none⟩ (pp u)).setCell ⟨p, 4, none⟩ (pp u)).setCell ⟨p, 0, none⟩ (.int .i64 (d' : Int))).setCell ⟨x, 3, none⟩ (pp x)).setCell ⟨x, 2, none⟩ (pp x)).drew.drew.drew := ⟨_, rfl⟩
  rw [← hwx]
  have HM := Lib.hid (HMID.out wx hwx)
  clear hwx HMID c0 c1 c2 c3 c4 c5 c6 c7 f0 f1 f2 f3 fh ch0 Lx Lu Lc
  obtain ⟨z, F3, hpa3, hpr3, hcall⟩ := cut_merge HH.out HK.out HO.out HM.out
  have HP3 := Lib.hid (And.intro hpa3 hpr3)
  have HCALL := Lib.hid hcall
  have g0 := HM.out.2.1.c0
  replace g0 : wx.cell? ⟨hb, 0, none⟩ = some (pp m) := g0
  clear hpa3 hpr3 hcall
  go_wp2_with (go_at_call 40; with_reducible refine HCALL.out.mono ?_)
  rintro e w3 ⟨rfl, ho3, h3⟩
  have g1 := ho3.c0
  have g2 := ho3.fr
  replace g1 : w3.cell? ⟨hb, 0, none⟩ = some (pp m) := g1
  obtain ⟨w4, hw4⟩ : ∃ w4, w4 = w3.setCell ⟨hb, 0, none⟩ (pp z) := ⟨_, rfl⟩
  have HA4 := Lib.hid (h3 w4 hw4)
  have HW4 := Lib.hid hw4
  obtain ⟨G3, hcs, hor, hon⟩ := HA4.out
  have q0 := hcs.mem.pa HXA.out.1
  rw [HP3.out.1, HH.out.fo.kidpa p x HK.out] at q0
  replace q0 : w4.cell? ⟨x, 5, none⟩ = some (pp p) := q0
  obtain ⟨mp, hmp⟩ : ∃ mp, F3.mrk p = mp := ⟨_, rfl⟩
  have q1 := hcs.mem.mrk HXA.out.2.1
  rw [hmp] at q1
  have q2 := hcs.mem.fr HXA.out.1
  have q3 := hcs.mem.fr HXA.out.2.1
  have HCS := Lib.hid (And.intro hcs (And.intro hor hon))
  clear ho3 h3 hcs hor hon HA4 hmp hw4
  rw [HW4.out] at q0 q1 q2 q3
  cases mp with
  | true =>
    have HREC := Lib.hid (HHA.out w4 F3 G3 z HP3.out.1 HP3.out.2 HCS.out.1 HCS.out.2.1)
    rw [HW4.out] at HREC
    go_wp2_with (go_at_call 54; with_reducible refine HREC.out.mono ?_)
    rintro e w5 h5
    obtain ⟨rfl, F5, G5, m5, hcs5, hor5, hpr5, hrt5, hon5⟩ : e = .returned (.tuple #[]) ∧ ∃ F' G' m', CutS w5 hb F' G' A (x :: X) m' n ∧ Ord F' G' (fun _ => False) ∧ F'.pr = F3.pr ∧ p ∈ G' .root ∧ Only (Fp hb A) _ w5 := h5
    have t0 := hcs5.mem.pa HXA.out.1
    have t1 := hcs5.mem.fr HXA.out.1
    generalize po (F5.pa x) = pv5 at t0
    have HF : Hid (CuP hb F A X n x w (.returned (.tuple #[])) (w5.setCell ⟨x, 5, none⟩ (.pointer none))) := Lib.hid (cut_end hcs5 hor5 (hpr5.trans HP3.out.2) (Only.trans (S := Fp hb A) (by have := HCS.out.2.2; rw [HW4.out] at this; exact this) hon5 (fun k _ hk => hk)) HXA.out.1 HXA.out.2.2)
    clear hcs5 hor5 hpr5 hon5 hrt5 HREC q0 q1 q2 q3
    go_wp2_with fail
    go_end0
    exact HF.out
  | false =>
    have HF : Hid (CuP hb F A X n x w (.returned (.tuple #[])) ((w4.setCell ⟨p, 1, none⟩ (.bool true)).setCell ⟨x, 5, none⟩ (.pointer none))) := Lib.hid (by
      have hO5 : Only (fun k => k = p) w4 (w4.setCell ⟨p, 1, none⟩ (.bool true)) := (Only.refl (fun k => k = p) w4).setCell ⟨p, 1, none⟩ _ (fun _ => rfl)
      have hcs := HCS.out.1
      exact cut_end ⟨hcs.obj.keep hO5 (fun e => hcs.nin (e ▸ HXA.out.2.1)), hcs.mem.setMk HXA.out.2.1 true, fo_mrk hcs.fo _, hcs.least, hcs.nin⟩ HCS.out.2.1 HP3.out.2 (HCS.out.2.2.trans hO5 (fun k _ e => .inr (by rw [show k = p from e]; exact HXA.out.2.1))) HXA.out.1 HXA.out.2.2)
    rw [HW4.out] at HF
    go_wp2_with fail
    go_end0
    exact HF.out

set_option maxRecDepth 100000 in
set_option maxHeartbeats 3200000 in
theorem cut_C (hb x p m n d u v c : Nat) (F : Fs) (G : Gs) (A X : List Nat) (w : World) (h : CutS w hb F G A X m n) (hx : x ∈ G (.kid p)) (ho : Ord F G (fun b => b = x)) (hxp : x ≠ p) (hX : x ∉ X)
    (hu : F.nx x = u) (hv : F.pv x = v) (hc : F.ch p = some c) (hd : F.deg p = (d : Int)) (hd0 : d < 1000000) (hux : u ≠ x) (hvx : v ≠ x) (hcx : c ≠ x) (HA : Rec hb p n F A (x :: X)) :
    Calls Try.prog 54 #[pp hb, pp x] w (CuP hb F A X n x w) := by

  have hxA := h.fo.mem hx
  have hpA := h.fo.kids p x hx
  have hpa := h.fo.kidpa p x hx
  have hring := h.fo.rings.ring (.kid p)
  have hnk := ring_nx_mem hring x hx
  have hpk := ring_pv_mem hring x hx
  have hnA := h.fo.mem hnk
  have hqA := h.fo.mem hpk
  have hcA : c ∈ A := by
    rcases h.fo.ch p hpA with ⟨h1, _⟩ | ⟨c', h1, h2⟩
    · rw [hc] at h1; cases h1
    · rw [hc] at h1; cases h1; exact h.fo.mem h2
  have hbx : hb ≠ x := fun e => h.nin (e ▸ hxA)
  have hbp : hb ≠ p := fun e => h.nin (e ▸ hpA)
  have c0 := h.mem.mrk hxA
  have c1 := h.mem.nx hxA
  have c2 := h.mem.pv hxA
  have c3 := h.mem.pa hxA
  have c4 := h.mem.ch hpA
  have c5 := h.mem.deg hpA
  have f0 := h.mem.fr hxA
  have f1 := h.mem.fr hpA
  have fh := h.obj.fr
  have f2 := h.mem.fr hnA
  have f3 := h.mem.fr hqA
  have c6 := h.mem.pv hnA
  have c7 := h.mem.nx hqA
  have ch0 := h.obj.c0
  rw [hpa] at c3
  rw [hc] at c4
  rw [hu] at c1 f2 c6
  rw [hv] at c2 f3 c7
  rw [hd] at c5
  replace c3 : w.cell? ⟨x, 5, none⟩ = some (pp p) := c3
  replace c4 : w.cell? ⟨p, 4, none⟩ = some (pp c) := c4
  replace ch0 : w.cell? ⟨hb, 0, none⟩ = some (pp m) := ch0
  have d1 : (d : Int) - 1 = ((d - 1 : Nat) : Int) := by
    have := h.fo.deg p hpA
    have hl : 0 < (G (.kid p)).length := List.length_pos_of_mem hx
    omega
  obtain ⟨d', hd'⟩ : ∃ d', d - 1 = d' := ⟨_, rfl⟩
  rw [hd'] at d1
  have d2 : IntKind.i64.wrap (d' : Int) = (d' : Int) := IntWalk.i64_in _ (by omega)
  have Lx : Liv w x := h.mem.liv hxA
  have Lu : Liv w u := by rw [← hu]; exact h.mem.liv hnA
  have Lc : Liv w c := h.mem.liv hcA
  have hOA : ∀ k, k ∈ A → Fp hb A k := fun k hk => .inr hk
  have hN : ∀ k, k ∈ A → k ≠ hb := fun k hk e => h.nin (e ▸ hk)
  have HMID : Hid (∀ wx, wx = ((((((w.setCell ⟨x, 1, none⟩ (.bool false)).setCell ⟨u, 3, none⟩ (pp v)).setCell ⟨v, 2, none⟩ (pp u)).setCell ⟨p, 0, none⟩ (.int .i64 (d' : Int))).setCell ⟨x, 3, none⟩ (pp x)).setCell ⟨x, 2, none⟩ (pp x)).drew.drew → Mid hb F A x p m n w wx) := Lib.hid (by
    rintro wx rfl
    have huA : u ∈ A := by rw [← hu]; exact hnA
    have hvA : v ∈ A := by rw [← hv]; exact hqA
    have hO : Only (· ∈ A) w (((((((w.setCell ⟨x, 1, none⟩ (.bool false)).setCell ⟨u, 3, none⟩ (pp v)).setCell ⟨v, 2, none⟩ (pp u)).setCell ⟨p, 0, none⟩ (.int .i64 (d' : Int))).setCell ⟨x, 3, none⟩ (pp x)).setCell ⟨x, 2, none⟩ (pp x)).drew.drew) := ((((((((Only.refl (· ∈ A) w).setCell ⟨x, 1, none⟩ _ (fun _ => hxA)).setCell ⟨u, 3, none⟩ _ (fun _ => huA)).setCell ⟨v, 2, none⟩ _ (fun _ => hvA)).setCell ⟨p, 0, none⟩ _ (fun _ => hpA)).setCell ⟨x, 3, none⟩ _ (fun _ => hxA)).setCell ⟨x, 2, none⟩ _ (fun _ => hxA)).drew).drew
    refine ⟨?_, HObj.keep h.obj hO h.nin, hO.mono (fun k _ hk => hOA k hk)⟩
    rw [ct_other (by rw [hc]; simpa using hcx), hu, hv, hd, d1]
    exact ((((((((h.mem).setMk hxA false).setPv huA v).setNx hvA u).setDeg hpA (d' : Int)).setPv hxA x).setNx hxA x).drew).drew)
  have HH := Lib.hid h
  have HO := Lib.hid ho
  have HHA := Lib.hid HA
  have HXA := Lib.hid (And.intro hxA (And.intro hpA hX))
  have HK := Lib.hid hx
  generalize F.mrk x = mk0 at c0
  generalize F.pv (F.nx x) = pn at c6
  generalize F.nx (F.pv x) = np at c7
  clear h hx ho HA hpa hring hnk hpk hnA hqA hcA hd' hOA hN hX hxA hpA
  go_enter Try.func54, Try.ntmps54
  go_wp2_with fail
  rw [neq_pp (Lu.set _ _ _) (Lx.set _ _ _), show (!(u == x)) = true by simpa using hux]
  go_wp2_with fail
  go_region
  go_wp2_with fail
  go_region
  go_wp2_with fail
  rw [eql_pp (u := c) (x := x) (((((Lc.set _ _ _).set _ _ _).set _ _ _).drew).drew) (((((Lx.set _ _ _).set _ _ _).set _ _ _).drew).drew), show (c == x) = false by simpa using hcx]
  go_upto_region 12 with fail
  obtain ⟨wx, hwx⟩ : ∃ wx, wx = ((((((w.setCell ⟨x, 1, none⟩ (.bool false)).setCell ⟨u, 3, none⟩ (pp v)).setCell ⟨v, 2, none⟩ (pp u)).setCell ⟨p, 0, none⟩ (.int .i64 (d' : Int))).setCell ⟨x, 3, none⟩ (pp x)).setCell ⟨x, 2, none⟩ (pp x)).drew.drew := ⟨_, rfl⟩
  rw [← hwx]
  have HM := Lib.hid (HMID.out wx hwx)
  clear hwx HMID c0 c1 c2 c3 c4 c5 c6 c7 f0 f1 f2 f3 fh ch0 Lx Lu Lc
  obtain ⟨z, F3, hpa3, hpr3, hcall⟩ := cut_merge HH.out HK.out HO.out HM.out
  have HP3 := Lib.hid (And.intro hpa3 hpr3)
  have HCALL := Lib.hid hcall
  have g0 := HM.out.2.1.c0
  replace g0 : wx.cell? ⟨hb, 0, none⟩ = some (pp m) := g0
  clear hpa3 hpr3 hcall
  go_wp2_with (go_at_call 40; with_reducible refine HCALL.out.mono ?_)
  rintro e w3 ⟨rfl, ho3, h3⟩
  have g1 := ho3.c0
  have g2 := ho3.fr
  replace g1 : w3.cell? ⟨hb, 0, none⟩ = some (pp m) := g1
  obtain ⟨w4, hw4⟩ : ∃ w4, w4 = w3.setCell ⟨hb, 0, none⟩ (pp z) := ⟨_, rfl⟩
  have HA4 := Lib.hid (h3 w4 hw4)
  have HW4 := Lib.hid hw4
  obtain ⟨G3, hcs, hor, hon⟩ := HA4.out
  have q0 := hcs.mem.pa HXA.out.1
  rw [HP3.out.1, HH.out.fo.kidpa p x HK.out] at q0
  replace q0 : w4.cell? ⟨x, 5, none⟩ = some (pp p) := q0
  obtain ⟨mp, hmp⟩ : ∃ mp, F3.mrk p = mp := ⟨_, rfl⟩
  have q1 := hcs.mem.mrk HXA.out.2.1
  rw [hmp] at q1
  have q2 := hcs.mem.fr HXA.out.1
  have q3 := hcs.mem.fr HXA.out.2.1
  have HCS := Lib.hid (And.intro hcs (And.intro hor hon))
  clear ho3 h3 hcs hor hon HA4 hmp hw4
  rw [HW4.out] at q0 q1 q2 q3
  cases mp with
  | true =>
    have HREC := Lib.hid (HHA.out w4 F3 G3 z HP3.out.1 HP3.out.2 HCS.out.1 HCS.out.2.1)
    rw [HW4.out] at HREC
    go_wp2_with (go_at_call 54; with_reducible refine HREC.out.mono ?_)
    rintro e w5 h5
    obtain ⟨rfl, F5, G5, m5, hcs5, hor5, hpr5, hrt5, hon5⟩ : e = .returned (.tuple #[]) ∧ ∃ F' G' m', CutS w5 hb F' G' A (x :: X) m' n ∧ Ord F' G' (fun _ => False) ∧ F'.pr = F3.pr ∧ p ∈ G' .root ∧ Only (Fp hb A) _ w5 := h5
    have t0 := hcs5.mem.pa HXA.out.1
    have t1 := hcs5.mem.fr HXA.out.1
    generalize po (F5.pa x) = pv5 at t0
    have HF : Hid (CuP hb F A X n x w (.returned (.tuple #[])) (w5.setCell ⟨x, 5, none⟩ (.pointer none))) := Lib.hid (cut_end hcs5 hor5 (hpr5.trans HP3.out.2) (Only.trans (S := Fp hb A) (by have := HCS.out.2.2; rw [HW4.out] at this; exact this) hon5 (fun k _ hk => hk)) HXA.out.1 HXA.out.2.2)
    clear hcs5 hor5 hpr5 hon5 hrt5 HREC q0 q1 q2 q3
    go_wp2_with fail
    go_end0
    exact HF.out
  | false =>
    have HF : Hid (CuP hb F A X n x w (.returned (.tuple #[])) ((w4.setCell ⟨p, 1, none⟩ (.bool true)).setCell ⟨x, 5, none⟩ (.pointer none))) := Lib.hid (by
      have hO5 : Only (fun k => k = p) w4 (w4.setCell ⟨p, 1, none⟩ (.bool true)) := (Only.refl (fun k => k = p) w4).setCell ⟨p, 1, none⟩ _ (fun _ => rfl)
      have hcs := HCS.out.1
      exact cut_end ⟨hcs.obj.keep hO5 (fun e => hcs.nin (e ▸ HXA.out.2.1)), hcs.mem.setMk HXA.out.2.1 true, fo_mrk hcs.fo _, hcs.least, hcs.nin⟩ HCS.out.2.1 HP3.out.2 (HCS.out.2.2.trans hO5 (fun k _ e => .inr (by rw [show k = p from e]; exact HXA.out.2.1))) HXA.out.1 HXA.out.2.2)
    rw [HW4.out] at HF
    go_wp2_with fail
    go_end0
    exact HF.out

set_option maxRecDepth 100000 in
set_option maxHeartbeats 3200000 in
theorem cut_A (hb x p m n d u v c : Nat) (F : Fs) (G : Gs) (A X : List Nat) (w : World) (h : CutS w hb F G A X m n) (hx : x ∈ G (.kid p)) (ho : Ord F G (fun b => b = x)) (hxp : x ≠ p) (hX : x ∉ X)
    (hu : F.nx x = u) (hv : F.pv x = v) (hc : F.ch p = some c) (hd : F.deg p = (d : Int)) (hd0 : d < 1000000) (hux : u = x) (hvx : v = x) (hcx : x = c) (HA : Rec hb p n F A (x :: X)) :
    Calls Try.prog 54 #[pp hb, pp x] w (CuP hb F A X n x w) := by
  subst hcx
  have hxA := h.fo.mem hx
  have hpA := h.fo.kids p x hx
  have hpa := h.fo.kidpa p x hx
  have hring := h.fo.rings.ring (.kid p)
  have hnk := ring_nx_mem hring x hx
  have hpk := ring_pv_mem hring x hx
  have hnA := h.fo.mem hnk
  have hqA := h.fo.mem hpk
  have hcA : x ∈ A := by
    rcases h.fo.ch p hpA with ⟨h1, _⟩ | ⟨c', h1, h2⟩
    · rw [hc] at h1; cases h1
    · rw [hc] at h1; cases h1; exact h.fo.mem h2
  have hbx : hb ≠ x := fun e => h.nin (e ▸ hxA)
  have hbp : hb ≠ p := fun e => h.nin (e ▸ hpA)
  have c0 := h.mem.mrk hxA
  have c1 := h.mem.nx hxA
  have c2 := h.mem.pv hxA
  have c3 := h.mem.pa hxA
  have c4 := h.mem.ch hpA
  have c5 := h.mem.deg hpA
  have f0 := h.mem.fr hxA
  have f1 := h.mem.fr hpA
  have fh := h.obj.fr
  have f2 := h.mem.fr hnA
  have f3 := h.mem.fr hqA
  have c6 := h.mem.pv hnA
  have c7 := h.mem.nx hqA
  have ch0 := h.obj.c0
  rw [hpa] at c3
  rw [hc] at c4
  rw [hu] at c1 f2 c6
  rw [hv] at c2 f3 c7
  rw [hd] at c5
  replace c3 : w.cell? ⟨x, 5, none⟩ = some (pp p) := c3
  replace c4 : w.cell? ⟨p, 4, none⟩ = some (pp x) := c4
  replace ch0 : w.cell? ⟨hb, 0, none⟩ = some (pp m) := ch0
  have d1 : (d : Int) - 1 = ((d - 1 : Nat) : Int) := by
    have := h.fo.deg p hpA
    have hl : 0 < (G (.kid p)).length := List.length_pos_of_mem hx
    omega
  obtain ⟨d', hd'⟩ : ∃ d', d - 1 = d' := ⟨_, rfl⟩
  rw [hd'] at d1
  have d2 : IntKind.i64.wrap (d' : Int) = (d' : Int) := IntWalk.i64_in _ (by omega)
  have Lx : Liv w x := h.mem.liv hxA
  have Lu : Liv w u := by rw [← hu]; exact h.mem.liv hnA
  have Lc : Liv w x := h.mem.liv hcA
  have hOA : ∀ k, k ∈ A → Fp hb A k := fun k hk => .inr hk
  have hN : ∀ k, k ∈ A → k ≠ hb := fun k hk e => h.nin (e ▸ hk)
  have HMID : Hid (∀ wx, wx = (((((w.setCell ⟨x, 1, none⟩ (.bool false)).setCell ⟨p, 4, none⟩ (.pointer none)).setCell ⟨p, 0, none⟩ (.int .i64 (d' : Int))).setCell ⟨x, 3, none⟩ (pp x)).setCell ⟨x, 2, none⟩ (pp x)) → Mid hb F A x p m n w wx) := Lib.hid (by
    rintro wx rfl
    have huA : u ∈ A := by rw [← hu]; exact hnA
    have hvA : v ∈ A := by rw [← hv]; exact hqA
    have hO : Only (· ∈ A) w ((((((w.setCell ⟨x, 1, none⟩ (.bool false)).setCell ⟨p, 4, none⟩ (.pointer none)).setCell ⟨p, 0, none⟩ (.int .i64 (d' : Int))).setCell ⟨x, 3, none⟩ (pp x)).setCell ⟨x, 2, none⟩ (pp x))) := (((((Only.refl (· ∈ A) w).setCell ⟨x, 1, none⟩ _ (fun _ => hxA)).setCell ⟨p, 4, none⟩ _ (fun _ => hpA)).setCell ⟨p, 0, none⟩ _ (fun _ => hpA)).setCell ⟨x, 3, none⟩ _ (fun _ => hxA)).setCell ⟨x, 2, none⟩ _ (fun _ => hxA)
    refine ⟨?_, HObj.keep h.obj hO h.nin, hO.mono (fun k _ hk => hOA k hk)⟩
    rw [ct_alone (by rw [hu]; exact hux) (by rw [hv]; exact hvx) hc, hd, d1]
    exact (((((h.mem).setMk hxA false).setCh hpA none).setDeg hpA (d' : Int)).setPv hxA x).setNx hxA x)
  rw [hux] at c1
  rw [hvx] at c2
  clear hux hvx f2 f3 c6 c7 Lu
  have HH := Lib.hid h
  have HO := Lib.hid ho
  have HHA := Lib.hid HA
  have HXA := Lib.hid (And.intro hxA (And.intro hpA hX))
  have HK := Lib.hid hx
  generalize F.mrk x = mk0 at c0
  clear h hx ho HA hpa hring hnk hpk hnA hqA hcA hd' hOA hN hX hxA hpA
  go_enter Try.func54, Try.ntmps54
  go_wp2_with fail
  rw [neq_pp (u := x) (x := x) (Lx.set _ _ _) (Lx.set _ _ _), beq_self_eq_true]
  go_wp2_with fail
  rw [eql_pp (u := x) (x := x) (Lx.set _ _ _) (Lx.set _ _ _), beq_self_eq_true]
  go_wp2_with fail
  rw [neq_pp (u := x) (x := x) (Lx.set _ _ _) (Lx.set _ _ _), beq_self_eq_true]
  go_upto_region 12 with fail
  obtain ⟨wx, hwx⟩ : ∃ wx, wx = (((((w.setCell ⟨x, 1, none⟩ (.bool false)).setCell ⟨p, 4, none⟩ (.pointer none)).setCell ⟨p, 0, none⟩ (.int .i64 (d' : Int))).setCell ⟨x, 3, none⟩ (pp x)).setCell ⟨x, 2, none⟩ (pp x)) := ⟨_, rfl⟩
  rw [← hwx]
  have HM := Lib.hid (HMID.out wx hwx)
  clear hwx HMID c0 c1 c2 c3 c4 c5 f0 f1 fh ch0 Lx Lc
  obtain ⟨z, F3, hpa3, hpr3, hcall⟩ := cut_merge HH.out HK.out HO.out HM.out
  have HP3 := Lib.hid (And.intro hpa3 hpr3)
  have HCALL := Lib.hid hcall
  have g0 := HM.out.2.1.c0
  replace g0 : wx.cell? ⟨hb, 0, none⟩ = some (pp m) := g0
  clear hpa3 hpr3 hcall
  go_wp2_with (go_at_call 40; with_reducible refine HCALL.out.mono ?_)
  rintro e w3 ⟨rfl, ho3, h3⟩
  have g1 := ho3.c0
  have g2 := ho3.fr
  replace g1 : w3.cell? ⟨hb, 0, none⟩ = some (pp m) := g1
  obtain ⟨w4, hw4⟩ : ∃ w4, w4 = w3.setCell ⟨hb, 0, none⟩ (pp z) := ⟨_, rfl⟩
  have HA4 := Lib.hid (h3 w4 hw4)
  have HW4 := Lib.hid hw4
  obtain ⟨G3, hcs, hor, hon⟩ := HA4.out
  have q0 := hcs.mem.pa HXA.out.1
  rw [HP3.out.1, HH.out.fo.kidpa p x HK.out] at q0
  replace q0 : w4.cell? ⟨x, 5, none⟩ = some (pp p) := q0
  obtain ⟨mp, hmp⟩ : ∃ mp, F3.mrk p = mp := ⟨_, rfl⟩
  have q1 := hcs.mem.mrk HXA.out.2.1
  rw [hmp] at q1
  have q2 := hcs.mem.fr HXA.out.1
  have q3 := hcs.mem.fr HXA.out.2.1
  have HCS := Lib.hid (And.intro hcs (And.intro hor hon))
  clear ho3 h3 hcs hor hon HA4 hmp hw4
  rw [HW4.out] at q0 q1 q2 q3
  cases mp with
  | true =>
    have HREC := Lib.hid (HHA.out w4 F3 G3 z HP3.out.1 HP3.out.2 HCS.out.1 HCS.out.2.1)
    rw [HW4.out] at HREC
    go_wp2_with (go_at_call 54; with_reducible refine HREC.out.mono ?_)
    rintro e w5 h5
    obtain ⟨rfl, F5, G5, m5, hcs5, hor5, hpr5, hrt5, hon5⟩ : e = .returned (.tuple #[]) ∧ ∃ F' G' m', CutS w5 hb F' G' A (x :: X) m' n ∧ Ord F' G' (fun _ => False) ∧ F'.pr = F3.pr ∧ p ∈ G' .root ∧ Only (Fp hb A) _ w5 := h5
    have t0 := hcs5.mem.pa HXA.out.1
    have t1 := hcs5.mem.fr HXA.out.1
    generalize po (F5.pa x) = pv5 at t0
    have HF : Hid (CuP hb F A X n x w (.returned (.tuple #[])) (w5.setCell ⟨x, 5, none⟩ (.pointer none))) := Lib.hid (cut_end hcs5 hor5 (hpr5.trans HP3.out.2) (Only.trans (S := Fp hb A) (by have := HCS.out.2.2; rw [HW4.out] at this; exact this) hon5 (fun k _ hk => hk)) HXA.out.1 HXA.out.2.2)
    clear hcs5 hor5 hpr5 hon5 hrt5 HREC q0 q1 q2 q3
    go_wp2_with fail
    go_end0
    exact HF.out
  | false =>
    have HF : Hid (CuP hb F A X n x w (.returned (.tuple #[])) ((w4.setCell ⟨p, 1, none⟩ (.bool true)).setCell ⟨x, 5, none⟩ (.pointer none))) := Lib.hid (by
      have hO5 : Only (fun k => k = p) w4 (w4.setCell ⟨p, 1, none⟩ (.bool true)) := (Only.refl (fun k => k = p) w4).setCell ⟨p, 1, none⟩ _ (fun _ => rfl)
      have hcs := HCS.out.1
      exact cut_end ⟨hcs.obj.keep hO5 (fun e => hcs.nin (e ▸ HXA.out.2.1)), hcs.mem.setMk HXA.out.2.1 true, fo_mrk hcs.fo _, hcs.least, hcs.nin⟩ HCS.out.2.1 HP3.out.2 (HCS.out.2.2.trans hO5 (fun k _ e => .inr (by rw [show k = p from e]; exact HXA.out.2.1))) HXA.out.1 HXA.out.2.2)
    rw [HW4.out] at HF
    go_wp2_with fail
    go_end0
    exact HF.out

theorem nodup_le : ∀ {l A : List Nat}, l.Nodup → (∀ b ∈ l, b ∈ A) → l.length ≤ A.length
  | [], A, _, _ => Nat.zero_le _
  | x :: l, A, hn, hs => by
    have hx := hs x (by simp)
    have h1 := nodup_le (l := l) (A := A.erase x) (List.nodup_cons.1 hn).2 (fun b hb => (List.mem_erase_of_ne (fun (e : b = x) => (List.nodup_cons.1 hn).1 (e ▸ hb))).2 (hs b (by simp [hb])))
    rw [List.length_erase_of_mem hx] at h1
    have := List.length_pos_of_mem hx
    rw [List.length_cons]; omega
theorem Fo.alone {F : Fs} {G : Gs} {A X : List Nat} {x p : Nat} (h : Fo F G A X) (hx : x ∈ G (.kid p)) (e : F.nx x = x) : F.pv x = x ∧ F.ch p = some x := by
  obtain ⟨G1, l, e1, o1, p1, h1⟩ := h.front hx
  have hr := h1.rings.ring (.kid p)
  have hn := h1.rings.nodup (.kid p)
  rw [e1] at hr hn
  have hl := (ring_alone hr hn).1 e
  subst hl
  refine ⟨hr.2, ?_⟩
  rcases h1.ch p (h.kids p x hx) with ⟨_, h2⟩ | ⟨c, h2, h3⟩
  · rw [e1] at h2; cases h2
  · rw [e1] at h3; simp at h3; subst h3; exact h2
theorem Fo.pv_ne {F : Fs} {G : Gs} {A X : List Nat} {x : Nat} {k : Key} (h : Fo F G A X) (hx : x ∈ G k) (e : F.nx x ≠ x) : F.pv x ≠ x := fun e2 => by
  obtain ⟨G1, l, e1, o1, p1, h1⟩ := h.front hx
  have hr := h1.rings.ring k
  have hn := h1.rings.nodup k
  rw [e1] at hr hn
  have hr' : Path F.nx F.pv x l x := hr
  rcases List.eq_nil_or_concat l with hl | ⟨l', y, hl⟩
  · exact e ((ring_alone hr hn).2 hl)
  · rw [List.concat_eq_append] at hl
    subst hl
    have h2 := (path_append.1 hr').2
    have h3 : F.pv x = y := h2.2
    rw [e2] at h3
    subst h3
    simp at hn
theorem cutNode (hb n : Nat) (A : List Nat) (hA : A.length < 1000000) (pa0 : Nat → Option Nat) (x : Nat) (hu : UpF pa0 x) : ∀ (F : Fs) (G : Gs) (X : List Nat) (m : Nat) (w : World), F.pa = pa0 → CutS w hb F G A X m n → x ∈ A → x ∉ X → (∀ y ∈ X, Anc pa0 y x) → Ord F G (fun b => b = x) →
    Calls Try.prog 54 #[pp hb, pp x] w (CuP hb F A X n x w) := by
  have huu := hu
  induction hu with
  | @root x hp =>
    intro F G X m w hF h hx hX hY ho
    exact cut_root hb x m n F G A X w h hx ho (by rw [hF]; exact hp)
  | @step x p hp hup ih =>
    intro F G X m w hF h hx hX hY ho
    have hk : x ∈ G (.kid p) := by
      rcases (h.fo.all x).1 hx with h1 | ⟨q, h1⟩
      · have := h.fo.rootpa x h1 hX
        rw [hF, hp] at this; cases this
      · have h2 := h.fo.kidpa q x h1
        rw [hF, hp] at h2
        cases h2; exact h1
    have hpA := h.fo.kids p x hk
    have hxp : x ≠ p := fun e => up_anc huu (.one (by rw [hp, e]))
    have hpX : p ∉ x :: X := fun hm => by
      rcases List.mem_cons.1 hm with e | hm
      · exact hxp e.symm
      · exact up_anc hup (.more (hY p hm) hp)
    have HA : Rec hb p n F A (x :: X) := fun w' F' G' m' e1 e2 hc ho' => ih hup F' G' (x :: X) m' w' (e1.trans hF) hc hpA hpX (fun y hy => by
      rcases List.mem_cons.1 hy with rfl | hy
      · exact .one hp
      · exact .more (hY y hy) hp) (fun q b hb' _ => ho' q b hb' (fun f => f))
    obtain ⟨d, hd⟩ : ∃ d : Nat, F.deg p = (d : Int) := ⟨_, h.fo.deg p hpA⟩
    have hd0 : d < 1000000 := by
      have h1 := h.fo.deg p hpA
      have h2 : (G (.kid p)).length ≤ A.length := nodup_le (h.fo.rings.nodup _) (fun b hb' => h.fo.mem hb')
      omega
    rcases h.fo.ch p hpA with ⟨_, h2⟩ | ⟨c, hc, _⟩
    · rw [h2] at hk; cases hk
    · by_cases e : F.nx x = x
      · have ha := h.fo.alone hk e
        exact cut_A hb x p m n d (F.nx x) (F.pv x) x F G A X w h hk ho hxp hX rfl rfl ha.2 hd hd0 e ha.1 rfl HA
      · have hv := h.fo.pv_ne hk e
        by_cases e2 : x = c
        · exact cut_B hb x p m n d (F.nx x) (F.pv x) c F G A X w h hk ho hxp hX rfl rfl hc hd hd0 e hv e2 HA
        · exact cut_C hb x p m n d (F.nx x) (F.pv x) c F G A X w h hk ho hxp hX rfl rfl hc hd hd0 e hv (fun e3 => e2 e3.symm) HA
end Go.Proofs.Ytpddddjfjmipfaa.fh

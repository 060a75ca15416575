/-
  Entries of a Fibonacci heap in memory; newEntry, mergeLists.
-/
import Derived.Test.YtpddddjfjmipfaaFhRing
import Derived.Test.YtpddddjfjmipfaaRw
import Derived.Outline
import Derived.RegionTactic
import Derived.BigRegion
import Derived.ChangeAlike
import Derived.Deep.RegionHeld3
import Derived.Deep.DeepCutAuto
import Derived.Deep.CutBlock
import Derived.WalkLawsBesides
namespace Go.Proofs.Ytpddddjfjmipfaa.fh
open Go.RowKit Go.Proofs.Ytpddddjfjmipfaa.base Go.Proofs.Ytpddddjfjmipfaa.heap Go.Proofs.Ytpddddjfjmipfaa.rows Go.Proofs.Ytpddddjfjmipfaa.flt
set_option linter.unusedVariables false

/-- what the entries hold, by their blocks -/
structure Fs where
  deg : Nat → Int
  mrk : Nat → Bool
  nx : Nat → Nat
  pv : Nat → Nat
  ch : Nat → Option Nat
  pa : Nat → Option Nat
  pr : Nat → Nat
abbrev pp (b : Nat) : Value := .pointer (some ⟨b, 0, none⟩)
abbrev po (o : Option Nat) : Value := .pointer (o.map fun b => ⟨b, 0, none⟩)
def NodeAt (w : World) (F : Fs) (b : Nat) : Prop :=
  w.heap[b]? = some (.cells #[.int .i64 (F.deg b), .bool (F.mrk b), pp (F.nx b), pp (F.pv b), po (F.ch b), po (F.pa b), .float .f64 (F.pr b)] 84 (0, 0))
def Mem (w : World) (F : Fs) (P : Nat → Prop) : Prop := ∀ b, P b → NodeAt w F b
section
variable {w w' : World} {F : Fs} {P : Nat → Prop} {b : Nat}
theorem Mem.deg (h : Mem w F P) (hb : P b) : w.cell? ⟨b, 0, none⟩ = some (.int .i64 (F.deg b)) := block_cell (h b hb) rfl
theorem Mem.mrk (h : Mem w F P) (hb : P b) : w.cell? ⟨b, 1, none⟩ = some (.bool (F.mrk b)) := block_cell (h b hb) rfl
theorem Mem.nx (h : Mem w F P) (hb : P b) : w.cell? ⟨b, 2, none⟩ = some (pp (F.nx b)) := block_cell (h b hb) rfl
theorem Mem.pv (h : Mem w F P) (hb : P b) : w.cell? ⟨b, 3, none⟩ = some (pp (F.pv b)) := block_cell (h b hb) rfl
theorem Mem.ch (h : Mem w F P) (hb : P b) : w.cell? ⟨b, 4, none⟩ = some (po (F.ch b)) := block_cell (h b hb) rfl
theorem Mem.pa (h : Mem w F P) (hb : P b) : w.cell? ⟨b, 5, none⟩ = some (po (F.pa b)) := block_cell (h b hb) rfl
theorem Mem.pr (h : Mem w F P) (hb : P b) : w.cell? ⟨b, 6, none⟩ = some (.float .f64 (F.pr b)) := block_cell (h b hb) rfl
theorem Mem.fr (h : Mem w F P) (hb : P b) (i : Nat) : w.frozen? ⟨b, i, none⟩ = false := block_free (h b hb)
theorem Mem.lt (h : Mem w F P) (hb : P b) : b < w.heap.size := lt_of_heap (h b hb)
theorem Mem.keep {S : Nat → Prop} (h : Mem w F P) (ho : Only S w w') (hn : ∀ k, P k → ¬ S k) : Mem w' F P := fun b hb => ho.obj (h b hb) (hn b hb)
theorem Mem.still (h : Mem w F P) (ho : Same w w') : Mem w' F P := h.keep ho (fun _ _ => id)
theorem Mem.drew (h : Mem w F P) : Mem w.drew F P := h
theorem Mem.drewN (h : Mem w F P) (n : Nat) : Mem (w.drewN n) F P := h
theorem Mem.less {Q : Nat → Prop} (h : Mem w F P) (hq : ∀ b, Q b → P b) : Mem w F Q := fun b hb => h b (hq b hb)
theorem mem_set (h : Mem w F P) (hb : P b) (j : Nat) (v : Value) (F' : Fs) (ho : ∀ u, u ≠ b → NodeAt w F u → NodeAt w F' u)
    (hs : (#[.int .i64 (F.deg b), .bool (F.mrk b), pp (F.nx b), pp (F.pv b), po (F.ch b), po (F.pa b), .float .f64 (F.pr b)] : Array Value).setIfInBounds j v = #[.int .i64 (F'.deg b), .bool (F'.mrk b), pp (F'.nx b), pp (F'.pv b), po (F'.ch b), po (F'.pa b), .float .f64 (F'.pr b)]) :
    Mem (w.setCell ⟨b, j, none⟩ v) F' P := fun u hu => by
  by_cases e : u = b
  · subst e
    have := setCell_heap (h u hu) j v
    rw [hs] at this
    exact this
  · have h1 := ho u e (h u hu)
    have hO : Only (fun k => k = b) w (w.setCell ⟨b, j, none⟩ v) := (Only.refl _ _).setCell _ _ (fun _ => rfl)
    exact hO.obj h1 e
theorem Mem.setDeg (h : Mem w F P) (hb : P b) (v : Int) : Mem (w.setCell ⟨b, 0, none⟩ (.int .i64 v)) { F with deg := put F.deg b v } P :=
  mem_set h hb 0 _ _ (fun u hu hn => by unfold NodeAt at hn ⊢; simpa [put_other hu] using hn) (by simp [put_same])
theorem Mem.setMk (h : Mem w F P) (hb : P b) (v : Bool) : Mem (w.setCell ⟨b, 1, none⟩ (.bool v)) { F with mrk := put F.mrk b v } P :=
  mem_set h hb 1 _ _ (fun u hu hn => by unfold NodeAt at hn ⊢; simpa [put_other hu] using hn) (by simp [put_same])
theorem Mem.setNx (h : Mem w F P) (hb : P b) (v : Nat) : Mem (w.setCell ⟨b, 2, none⟩ (pp v)) { F with nx := put F.nx b v } P :=
  mem_set h hb 2 _ _ (fun u hu hn => by unfold NodeAt at hn ⊢; simpa [put_other hu] using hn) (by simp [put_same])
theorem Mem.setPv (h : Mem w F P) (hb : P b) (v : Nat) : Mem (w.setCell ⟨b, 3, none⟩ (pp v)) { F with pv := put F.pv b v } P :=
  mem_set h hb 3 _ _ (fun u hu hn => by unfold NodeAt at hn ⊢; simpa [put_other hu] using hn) (by simp [put_same])
theorem Mem.setCh (h : Mem w F P) (hb : P b) (v : Option Nat) : Mem (w.setCell ⟨b, 4, none⟩ (po v)) { F with ch := put F.ch b v } P :=
  mem_set h hb 4 _ _ (fun u hu hn => by unfold NodeAt at hn ⊢; simpa [put_other hu] using hn) (by simp [put_same])
theorem Mem.setPa (h : Mem w F P) (hb : P b) (v : Option Nat) : Mem (w.setCell ⟨b, 5, none⟩ (po v)) { F with pa := put F.pa b v } P :=
  mem_set h hb 5 _ _ (fun u hu hn => by unfold NodeAt at hn ⊢; simpa [put_other hu] using hn) (by simp [put_same])
theorem Mem.setPr (h : Mem w F P) (hb : P b) (v : Nat) : Mem (w.setCell ⟨b, 6, none⟩ (.float .f64 v)) { F with pr := put F.pr b v } P :=
  mem_set h hb 6 _ _ (fun u hu hn => by unfold NodeAt at hn ⊢; simpa [put_other hu] using hn) (by simp [put_same])
end

/-- two rings become one -/
def Mg (F : Fs) (x y : Nat) : Fs := { F with nx := put (put F.nx x (F.nx y)) y (F.nx x), pv := put (put F.pv (F.nx y) x) (F.nx x) y }
def mgW (w : World) (F : Fs) (x y : Nat) : World :=
  (((w.setCell ⟨x, 2, none⟩ (pp (F.nx y))).setCell ⟨F.nx y, 3, none⟩ (pp x)).setCell ⟨y, 2, none⟩ (pp (F.nx x))).setCell ⟨F.nx x, 3, none⟩ (pp y)
theorem mg_mem {w : World} {F : Fs} {P : Nat → Prop} {x y : Nat} (h : Mem w F P) (hx : P x) (hy : P y) (hx' : P (F.nx x)) (hy' : P (F.nx y)) : Mem (mgW w F x y) (Mg F x y) P ∧ Only P w (mgW w F x y) := by
  refine ⟨(((h.setNx hx (F.nx y)).setPv hy' x).setNx hy (F.nx x)).setPv hx' y, ?_⟩
  exact ((((Only.refl P w).setCell ⟨x, 2, none⟩ _ (fun _ => hx)).setCell ⟨F.nx y, 3, none⟩ _ (fun _ => hy')).setCell ⟨y, 2, none⟩ _ (fun _ => hy)).setCell ⟨F.nx x, 3, none⟩ _ (fun _ => hx')

/-- what mergeLists hands back of two lists that are not nil -/
def MlP (F : Fs) (x y : Nat) (P : Nat → Prop) (w : World) (e : Ending) (w' : World) : Prop :=
  e = .returned (pp (if fval (F.pr x) < fval (F.pr y) then x else y)) ∧ Mem w' (Mg F x y) P ∧ Only P w w'

set_option maxRecDepth 100000 in
theorem merge_nil1 (y : Option Nat) (w : World) : Calls Try.prog 40 #[.pointer none, po y] w fun e w' => e = .returned (po y) ∧ w = w' := by
  cases y with
  | none =>
    go_enter Try.func40, Try.ntmps40
    go_wp2_with fail
    go_ret
    exact ⟨rfl, rfl⟩
  | some b =>
    go_enter Try.func40, Try.ntmps40
    go_wp2_with fail
    go_ret
    exact ⟨rfl, rfl⟩
set_option maxRecDepth 100000 in
theorem merge_nil2 (x : Nat) (w : World) : Calls Try.prog 40 #[pp x, .pointer none] w fun e w' => e = .returned (pp x) ∧ w = w' := by
  go_enter Try.func40, Try.ntmps40
  go_wp2_with fail
  go_ret
  exact ⟨rfl, rfl⟩

set_option maxRecDepth 100000 in
set_option maxHeartbeats 1600000 in
theorem merge2 (x y : Nat) (F : Fs) (P : Nat → Prop) (w : World) (h : Mem w F P) (hx : P x) (hy : P y) (hx' : P (F.nx x)) (hy' : P (F.nx y)) (hne : x ≠ y) (hnn : F.nx x ≠ F.nx y) (fx : FinW (F.pr x)) (fy : FinW (F.pr y)) :
    Calls Try.prog 40 #[pp x, pp y] w (MlP F x y P w) := by
  have c0 := h.nx hx
  have c1 := h.nx hy
  have c2 := h.pv hx'
  have c3 := h.pv hy'
  have f0 := h.fr hx
  have f1 := h.fr hy
  have f2 := h.fr hx'
  have f3 := h.fr hy'
  have hyx : y ≠ x := fun e => hne e.symm
  have HMG := Lib.hid (mg_mem h hx hy hx' hy')
  obtain ⟨w4, HW⟩ : ∃ w4, Hid (mgW w F x y = w4) := ⟨_, Lib.hid rfl⟩
  rw [HW.out] at HMG
  have q0 : w4.cell? ⟨x, 6, none⟩ = some (.float .f64 (F.pr x)) := HMG.out.1.pr hx
  have q1 : w4.cell? ⟨y, 6, none⟩ = some (.float .f64 (F.pr y)) := HMG.out.1.pr hy
  have HLT := Lib.hid (lt_words fx fy)
  obtain ⟨p, hp⟩ : ∃ p, F.nx x = p := ⟨_, rfl⟩
  obtain ⟨q, hq⟩ : ∃ p, F.nx y = p := ⟨_, rfl⟩
  have HPQ := Lib.hid (And.intro hp hq)
  rw [hp] at c0 c2 f2 hnn
  rw [hq] at c1 c3 f3 hnn
  have hqp : q ≠ p := fun e => hnn e.symm
  generalize F.pv p = p3 at c2
  generalize F.pv q = q3 at c3
  clear h hx hy hx' hy' fx fy hp hq
  go_enter Try.func40, Try.ntmps40
  go_wp2_with fail
  have hw : (((((w.setCell ⟨x, 2, none⟩ (pp q)).setCell ⟨q, 3, none⟩ (pp x)).setCell ⟨y, 2, none⟩ (pp p)).setCell ⟨p, 3, none⟩ (pp y))) = w4 := by
    have := HW.out
    unfold mgW at this
    rwa [HPQ.out.1, HPQ.out.2] at this
  rw [hw]
  clear hw c0 c1 c2 c3 f0 f1 f2 f3
  by_cases hlt : fval (F.pr x) < fval (F.pr y)
  · have hl2 : (FloatKind.f64.format.order (F.pr x) (F.pr y) == some .lt) = true := by
      have := HLT.out; rw [decide_eq_true hlt] at this; exact this
    have HIF : Hid ((if fval (F.pr x) < fval (F.pr y) then x else y) = x) := Lib.hid (if_pos hlt)
    clear hlt
    go_quiet (fail)
    go_wp2_with fail
    go_ret
    exact ⟨by rw [HIF.out]; rfl, HMG.out.1.drewN _, HMG.out.2.drewN _⟩
  · have hl2 : (FloatKind.f64.format.order (F.pr x) (F.pr y) == some .lt) = false := by
      have := HLT.out; rw [decide_eq_false hlt] at this; exact this
    have HIF : Hid ((if fval (F.pr x) < fval (F.pr y) then x else y) = y) := Lib.hid (if_neg hlt)
    clear hlt
    go_quiet (fail)
    go_wp2_with fail
    go_ret
    exact ⟨by rw [HIF.out]; rfl, HMG.out.1.drewN _, HMG.out.2.drewN _⟩
end Go.Proofs.Ytpddddjfjmipfaa.fh

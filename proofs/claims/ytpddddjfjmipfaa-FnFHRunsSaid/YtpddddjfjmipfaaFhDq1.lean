/-
  DequeueMin: the least entry is taken out of the roots, its children become roots (plain states).
-/
import Derived.Test.YtpddddjfjmipfaaFhKey
namespace Go.Proofs.Ytpddddjfjmipfaa.fh
open Go.RowKit Go.Proofs.Ytpddddjfjmipfaa.base Go.Proofs.Ytpddddjfjmipfaa.heap Go.Proofs.Ytpddddjfjmipfaa.rows Go.Proofs.Ytpddddjfjmipfaa.flt
set_option linter.unusedVariables false

/-- taken out of the roots: what the entries hold, and where the heap begins -/
def F1 (F : Fs) (x : Nat) : Fs := if F.nx x = x then F else OutF F x
def mn1 (F : Fs) (x : Nat) : Option Nat := if F.nx x = x then none else some (F.nx x)
def R1 (hb x n : Nat) (F : Fs) (A : List Nat) (w wx : World) : Prop := HObj wx hb (mn1 F x) n ∧ Mem wx (F1 F x) (· ∈ A) ∧ Only (Fp hb A) w wx
/-- the children have forgotten their parent -/
def R2 (hb x n : Nat) (F : Fs) (C A : List Nat) (w wx : World) : Prop := HObj wx hb (mn1 F x) n ∧ Mem wx { F1 F x with pa := paOut F C } (· ∈ A) ∧ Only (Fp hb A) w wx
/-- an entry is there still, with its priority -/
def X6 (w : World) (x v : Nat) : Prop := ∃ c t, w.heap[x]? = some (.cells c t (0, 0)) ∧ c[6]? = some (.float .f64 v)
theorem X6.keep {w w' : World} {x v : Nat} {S : Nat → Prop} (h : X6 w x v) (ho : Only S w w') (hn : ¬ S x) : X6 w' x v := by
  obtain ⟨c, t, h1, h2⟩ := h
  exact ⟨c, t, ho.obj h1 hn, h2⟩
theorem X6.cell {w : World} {x v : Nat} (h : X6 w x v) : w.cell? ⟨x, 6, none⟩ = some (.float .f64 v) := by
  obtain ⟨c, t, h1, h2⟩ := h
  exact block_cell h1 h2
theorem X6.liv {w : World} {x v : Nat} (h : X6 w x v) : Liv w x := by
  obtain ⟨c, t, h1, h2⟩ := h
  exact ⟨c, t, h1⟩
theorem X6.lt {w : World} {x v : Nat} (h : X6 w x v) : x < w.heap.size := by
  obtain ⟨c, t, h1, h2⟩ := h
  exact lt_of_heap h1
theorem Mem.x6 {w : World} {F : Fs} {P : Nat → Prop} {x : Nat} (h : Mem w F P) (hx : P x) : X6 w x (F.pr x) := ⟨_, _, h x hx, rfl⟩
/-- the roots and the children are one list -/
def S1 (hb x : Nat) (A : List Nat) (pr : Nat → Nat) (w wx : World) : Prop :=
  ∃ F G mn, HObj wx hb mn (A.erase x).length ∧ Mem wx F (· ∈ A.erase x) ∧ Fo F G (A.erase x) [] ∧ Ord F G (fun _ => False) ∧ ((mn = none ∧ A.erase x = []) ∨ ∃ u, mn = some u ∧ u ∈ G .root) ∧ (∀ u ∈ A.erase x, F.pr u = pr u) ∧
    hb ∉ A ∧ Only (Fp hb A) w wx ∧ X6 wx x (pr x) ∧ x ∈ A
/-- the call of mergeLists ahead of it -/
def MgC (hb x : Nat) (A : List Nat) (pr : Nat → Nat) (w wx : World) (o1 o2 : Option Nat) : Prop :=
  Calls Try.prog 40 #[po o1, po o2] wx fun e w3 => ∃ z : Option Nat, e = .returned (po z) ∧ HObj w3 hb o1 (A.erase x).length ∧ ∀ w4, w4 = w3.setCell ⟨hb, 0, none⟩ (po z) → S1 hb x A pr w w4
section
variable {hb x : Nat} {A : List Nat} {pr : Nat → Nat} {w wx : World} {F : Fs} {G : Gs} {m : Nat}
theorem f1_pr (F : Fs) (x : Nat) : (F1 F x).pr = F.pr := by unfold F1; split <;> rfl
theorem mem_congr {F' : Fs} {P : Nat → Prop} (h : Mem w F P) (e : F' = F) : Mem w F' P := e ▸ h
theorem dq_merge (hp : Hp w hb F G A (some m)) (hpr : ∀ u ∈ A, F.pr u = pr u) (hx : x ∈ G .root) (h : R2 hb x (A.erase x).length F (G (.kid x)) A w wx) : MgC hb x A pr w wx (mn1 F x) (F.ch x) := by
  obtain ⟨ho, hM, hO⟩ := h
  have hxA := hp.fo.mem hx
  have hmem : ∀ b, b ∈ A.erase x ↔ b ≠ x ∧ b ∈ A := fun b => hp.fo.nodup.mem_erase_iff
  have hprr : ∀ u ∈ A.erase x, F.pr u = pr u := fun u hu => hpr u (List.mem_of_mem_erase hu)
  have hfin : ∀ u ∈ A, FinW (F.pr u) := hp.fo.fin
  -- what is said of a world in which the least root is x's, from the forest
  have done : ∀ (F' : Fs) (G' : Gs) (z : Option Nat) (w3 : World), F'.pr = F.pr → HObj w3 hb (mn1 F x) (A.erase x).length → Mem w3 F' (· ∈ A) → Only (Fp hb A) w w3 → Fo F' G' (A.erase x) [] → (∀ q b, b ∈ G' (.kid q) → b ∈ G (.kid q)) →
      ((z = none ∧ A.erase x = []) ∨ ∃ u, z = some u ∧ u ∈ G' .root) → S1 hb x A pr w (w3.setCell ⟨hb, 0, none⟩ (po z)) := by
    intro F' G' z w3 e1 h1 h2 h3 h4 h5 h6
    have hOs : Only (fun j => j = hb) w3 (w3.setCell ⟨hb, 0, none⟩ (po z)) := (Only.refl (fun j => j = hb) w3).setCell ⟨hb, 0, none⟩ _ (fun _ => rfl)
    have hM4 : Mem (w3.setCell ⟨hb, 0, none⟩ (po z)) F' (· ∈ A) := h2.keep hOs (fun j hj e => hp.nin (by rw [← (show j = hb from e)]; exact hj))
    refine ⟨F', G', z, HObj.set0 h1 z, hM4.less (fun b hb' => List.mem_of_mem_erase hb'), h4, fun q b hq _ => ?_, h6, fun u hu => by rw [e1]; exact hprr u hu, hp.nin, h3.trans hOs (fun j _ hj => .inl hj), ?_, hxA⟩
    · rw [e1]; exact hp.ord q b (h5 q b hq) (fun f => f)
    · have := hM4.x6 hxA
      rw [e1, hpr x hxA] at this; exact this
  have hprF : ({ F1 F x with pa := paOut F (G (.kid x)) } : Fs).pr = F.pr := f1_pr F x
  by_cases ha : F.nx x = x
  · have e1 : mn1 F x = none := if_pos ha
    have e2 : F1 F x = F := if_pos ha
    obtain ⟨G1, l, q1, q2, q3, h1⟩ := hp.fo.front hx
    have hr := h1.rings.ring .root
    have hn := h1.rings.nodup .root
    rw [q1] at hr hn
    have hl := (ring_alone hr hn).1 ha
    subst hl
    have hroot : G .root = [x] := by
      have := q3 .root
      rw [q1] at this
      exact (List.perm_singleton.1 this.symm)
    obtain ⟨G2, fo2, hr2, hk2⟩ := hp.fo.deq2 hroot
    rw [e2] at hM
    rw [e1]
    refine (merge_nil1 (F.ch x) wx).mono ?_
    rintro e w3 ⟨he, rfl⟩
    refine ⟨F.ch x, he, by rw [e1] at ho; exact ho, ?_⟩
    rintro w4 rfl
    refine done _ G2 _ _ (by rfl) ho hM hO fo2 hk2 ?_
    rcases hp.fo.ch x hxA with ⟨h3, h4⟩ | ⟨c, h3, h4⟩
    · refine .inl ⟨h3, ?_⟩
      refine List.eq_nil_iff_forall_not_mem.2 (fun b hb' => ?_)
      rcases (fo2.all b).1 hb' with h5 | ⟨q, h5⟩
      · rcases (hr2 b).1 h5 with ⟨h6, h7⟩ | h6
        · rw [hroot] at h6; simp at h6; exact h7 h6
        · rw [h4] at h6; cases h6
      · have hq := fo2.kids q b h5
        have : ∀ y, UpF (paOut F (G (.kid x))) y → y ∈ A.erase x → False := by
          intro y hy
          induction hy with
          | @root y hp0 =>
            intro hyA
            rcases (fo2.all y).1 hyA with h8 | ⟨q', h8⟩
            · rcases (hr2 y).1 h8 with ⟨h9, h10⟩ | h9
              · rw [hroot] at h9; simp at h9; exact h10 h9
              · rw [h4] at h9; cases h9
            · have := fo2.kidpa q' y h8
              rw [show ({ F with pa := paOut F (G (.kid x)) } : Fs).pa y = none from hp0] at this; cases this
          | @step y p' hp0 _ ih =>
            intro hyA
            rcases (fo2.all y).1 hyA with h8 | ⟨q', h8⟩
            · rcases (hr2 y).1 h8 with ⟨h9, h10⟩ | h9
              · rw [hroot] at h9; simp at h9; exact h10 h9
              · rw [h4] at h9; cases h9
            · have h9 := fo2.kidpa q' y h8
              rw [show ({ F with pa := paOut F (G (.kid x)) } : Fs).pa y = some p' from hp0] at h9
              cases h9
              exact ih (fo2.kids _ y h8)
        exact this b (fo2.up b hb') hb'
    · exact .inr ⟨c, h3, (hr2 c).2 (.inr h4)⟩
  · have e1 : mn1 F x = some (F.nx x) := if_neg ha
    have e2 : F1 F x = OutF F x := if_neg ha
    have hnr := ring_nx_mem (hp.fo.rings.ring .root) x hx
    rw [e2] at hM
    rcases hp.fo.ch x hxA with ⟨h3, h4⟩ | ⟨c, h3, h4⟩
    · obtain ⟨G2, fo2, hr2, hk2⟩ := hp.fo.deq1 hx h4
      rw [h3, e1]
      refine (merge_nil2 (F.nx x) wx).mono ?_
      rintro e w3 ⟨he, rfl⟩
      refine ⟨some (F.nx x), he, by rw [e1] at ho; exact ho, ?_⟩
      rintro w4 rfl
      exact done _ G2 _ _ (by rfl) ho hM hO fo2 hk2 (.inr ⟨_, rfl, (hr2 _).2 (.inl ⟨hnr, ha⟩)⟩)
    · obtain ⟨G2, fo2, hr2, hk2⟩ := hp.fo.deq3 hx hnr ha h4
      rw [h3, e1]
      have huA := hp.fo.mem hnr
      have hcA := hp.fo.mem h4
      have huc : F.nx x ≠ c := fun e => by have := hp.fo.rings.disj _ _ c (e ▸ hnr) h4; cases this
      have hpvr := ring_pv_mem (hp.fo.rings.ring .root) x hx
      have hru : put F.nx (F.pv x) (F.nx x) (F.nx x) ∈ G .root := by
        by_cases e : F.nx x = F.pv x
        · rw [e, put_same, ← e]; exact hnr
        · rw [put_other e]; exact ring_nx_mem (hp.fo.rings.ring .root) _ hnr
      have hcr : put F.nx (F.pv x) (F.nx x) c ∈ G (.kid x) := by
        rw [put_other (fun (e : c = F.pv x) => by have := hp.fo.rings.disj _ _ c (e ▸ hpvr) h4; cases this)]
        exact ring_nx_mem (hp.fo.rings.ring (.kid x)) c h4
      have hm2 := merge2 (F.nx x) c { OutF F x with pa := paOut F (G (.kid x)) } (· ∈ A) wx hM huA hcA (hp.fo.mem hru) (hp.fo.mem hcr) huc (fun e => by
        have h7 : put F.nx (F.pv x) (F.nx x) (F.nx x) = put F.nx (F.pv x) (F.nx x) c := e
        have := hp.fo.rings.disj _ _ _ hru (h7 ▸ hcr); cases this) (hfin _ huA) (hfin _ hcA)
      refine hm2.mono ?_
      rintro e w3 ⟨he, hM3, hO3⟩
      refine ⟨some (if fval (F.pr (F.nx x)) < fval (F.pr c) then F.nx x else c), he, by have := ho.keep hO3 hp.nin; rw [e1] at this; exact this, ?_⟩
      rintro w4 rfl
      refine done _ G2 _ _ (by rfl) (ho.keep hO3 hp.nin) hM3 (hO.trans hO3 (fun j _ hj => .inr hj)) fo2 hk2 (.inr ⟨_, rfl, ?_⟩)
      split
      · exact (hr2 _).2 (.inl ⟨hnr, ha⟩)
      · exact (hr2 _).2 (.inr h4)
end

/-- the next one in a ring -/
theorem path_next {nx pv : Nat → Nat} {y : Nat} : ∀ {l : List Nat} {a : Nat}, Path nx pv a l y → ∀ j b, (a :: l)[j]? = some b → nx b = ((a :: l)[j + 1]?).getD y
  | [], a, h, 0, b, hb => by simp at hb; subst hb; simpa using h.1
  | [], a, h, j + 1, b, hb => by simp at hb
  | d :: l, a, h, 0, b, hb => by simp at hb; subst hb; simpa using h.1.1
  | d :: l, a, h, j + 1, b, hb => by
    have := path_next h.2 j b (by simpa using hb)
    simpa using this
theorem ring_next {nx pv : Nat → Nat} {c : Nat} {l : List Nat} (h : Ring nx pv (c :: l)) {j b : Nat} (hb : (c :: l)[j]? = some b) : nx b = ((c :: l)[j + 1]?).getD c := path_next (show Path nx pv c l c from h) j b hb
theorem paOut_step {F : Fs} {C : List Nat} {j b : Nat} (hb : C[j]? = some b) : put (paOut F (C.take j)) b none = paOut F (C.take (j + 1)) := by
  funext u
  have ht : C.take (j + 1) = C.take j ++ [b] := take_snoc C j b hb
  by_cases e : u = b
  · subst e
    rw [put_same, paOut_in (by rw [ht]; simp)]
  · rw [put_other e]
    unfold paOut
    rw [ht]
    simp [e]
theorem paOut_perm {F : Fs} {C D : List Nat} (h : ∀ b, b ∈ C ↔ b ∈ D) : paOut F C = paOut F D := by
  funext u
  unfold paOut
  by_cases e : u ∈ C
  · rw [if_pos e, if_pos ((h u).1 e)]
  · rw [if_neg e, if_neg (fun h2 => e ((h u).2 h2))]
theorem paOut_nil {F : Fs} : paOut F [] = F.pa := by funext u; simp [paOut]
theorem f1_pa (F : Fs) (x : Nat) : (F1 F x).pa = F.pa := by unfold F1; split <;> rfl
theorem f1_ch (F : Fs) (x : Nat) : (F1 F x).ch = F.ch := by unfold F1; split <;> rfl
theorem f1_pa_self (F : Fs) (x : Nat) : ({ F1 F x with pa := F.pa } : Fs) = F1 F x := by unfold F1; split <;> rfl
theorem f1_nx {F : Fs} {G : Gs} {A X : List Nat} {x b : Nat} (h : Fo F G A X) (hx : x ∈ G .root) (hb : b ∈ G (.kid x)) : (F1 F x).nx b = F.nx b := by
  unfold F1
  split
  · rfl
  · exact put_other (fun (e : b = F.pv x) => by have := h.rings.disj _ _ b (e ▸ ring_pv_mem (h.rings.ring .root) x hx) hb; cases this)
/-- the children, from the first one on -/
structure Kids (F : Fs) (G : Gs) (x c : Nat) (C : List Nat) : Prop where
  head : C[0]? = some c
  mem : ∀ b, b ∈ C ↔ b ∈ G (.kid x)
  nodup : C.Nodup
  next : ∀ j b, C[j]? = some b → F.nx b = (C[j + 1]?).getD c
theorem Fo.kidsOf {F : Fs} {G : Gs} {A X : List Nat} {x c : Nat} (h : Fo F G A X) (hc : c ∈ G (.kid x)) : ∃ C, Kids F G x c C := by
  obtain ⟨G1, l, e1, o1, p1, h1⟩ := h.front hc
  have hr := h1.rings.ring (.kid x)
  have hn := h1.rings.nodup (.kid x)
  rw [e1] at hr hn
  exact ⟨c :: l, rfl, fun b => by rw [← e1]; exact (p1 _).mem_iff, hn, fun j b hb => ring_next hr hb⟩
/-- in the course of the loop over the children -/
def KidS (hb x n : Nat) (F : Fs) (C A : List Nat) (w : World) (j : Nat) (wx : World) : Prop := HObj wx hb (mn1 F x) n ∧ Mem wx { F1 F x with pa := paOut F (C.take j) } (· ∈ A) ∧ Only (Fp hb A) w wx
end Go.Proofs.Ytpddddjfjmipfaa.fh

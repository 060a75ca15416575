/-
  A new branch in memory: one level of it.
-/
import Derived.Test.YtcjifjfcjimefaaDoorZXfGrow
namespace Go.Proofs.YtcjifjfcjimefaaDoor.xf
open Go.RowKit Go.Proofs.YtcjifjfcjimefaaDoor.base Go.Proofs.YtcjifjfcjimefaaDoor.heap Go.Proofs.YtcjifjfcjimefaaDoor.rows Go.Proofs.YtcjifjfcjimefaaDoor.mapn
set_option linter.unusedVariables false
variable [Inhabited Kd]

section
variable {w w' : World} {b c tb lb m root num : Nat} {e : Value} {c0 c1 p mn mx : Option Nat} {f : Nat → Option Value} {md : Nat → Nat} {lk : Lk}
omit [Inhabited Kd] in
theorem Nd.ne_T (h : Nd w b e c0 c1 p) (h' : TObj w tb lb m root num mn mx) : b ≠ tb := fun hb => by
  subst hb
  have h1 := h'.obj
  have h2 : w.heap[b]? = _ := h
  rw [h2] at h1
  have := Option.some.inj h1
  injection this with h3 _ _
  have h4 := congrArg Array.size h3
  exact absurd h4 (by show ¬ (4 = 7); omega)
omit [Inhabited Kd] in
theorem Nd.ne_md (h : Nd w b e c0 c1 p) (h' : MapN w c f) : b ≠ c := fun hb => by
  subst hb
  obtain ⟨es, clock, h1, _⟩ := h'
  have h2 : w.heap[b]? = _ := h
  rw [h2] at h1
  cases h1
omit [Inhabited Kd] in
theorem TObj.ne_md (h' : TObj w tb lb m root num mn mx) (h : MapN w c f) : tb ≠ c := fun hb => by
  subst hb
  obtain ⟨es, clock, h1, _⟩ := h
  rw [h'.obj] at h1
  cases h1
omit [Inhabited Kd] in
theorem Lay.ne_md (h : Lay w m lb md lk) (h' : MapN w c f) : lb ≠ c := fun hb => by
  subst hb
  obtain ⟨es, clock, h1, _⟩ := h'
  have := h.row 0 (by have := h.m2; omega)
  simp [World.cell?, h1] at this
omit [Inhabited Kd] in
theorem TObj.ne_lb (h' : TObj w tb lb m root num mn mx) (h : Lay w m lb md lk) : tb ≠ lb := fun hb => by
  subst hb
  have h1 := h.row 0 (by have := h.m2; omega)
  rw [block_cell (j := 0) h'.obj rfl] at h1
  cases h1
omit [Inhabited Kd] in
theorem TObj.keep {S : Nat → Prop} (h' : TObj w tb lb m root num mn mx) (ho : Only S w w') (hn : ¬ S tb) : TObj w' tb lb m root num mn mx := ⟨ho.obj h'.obj hn⟩
omit [Inhabited Kd] in
theorem TObj.still (h' : TObj w tb lb m root num mn mx) (ho : Same w w') : TObj w' tb lb m root num mn mx := ⟨ho.obj h'.obj id⟩
end
/-- no node lies where the layers' row lies: its first cell is an entry -/
theorem Mem.ne_lb {w : World} {S : Sh} {md : Nat → Nat} {lk : Lk} {lb d p b : Nat} (h : Mem w S) (hL : Lay w S.m lb md lk) (hd : d ≤ S.m) (hb : S.lk d p = some b) : b ≠ lb := fun e => by
  subst e
  have h1 := hL.row 0 (by have := hL.m2; omega)
  have h2 := (h d p b hd hb).e
  rw [h1] at h2
  unfold Sh.entv at h2
  split at h2 <;> cases h2
/-- what belongs to a trie -/
def Own (S : Sh) (tb : Nat) (md : Nat → Nat) (k : Nat) : Prop := k = tb ∨ (∃ i, i < S.m ∧ k = md i) ∨ ∃ d p, d ≤ S.m ∧ S.lk d p = some k
/-- in the course of the branch: the nodes down to depth i are made -/
structure Gi (w wr : World) (S : Sh) (D x : Nat) (v : Int) (nb : Nat → Nat) (i tb lb root num : Nat) (md : Nat → Nat) (mn mx : Option Nat) : Prop where
  mem : Mem wr (S.grow D x v nb i)
  inj : Inj (S.grow D x v nb i)
  tree : Tree S.m (lkg S.m S.lk D x nb i)
  lay : Lay wr S.m lb md (lkg S.m S.lk D x nb i)
  mdi : ∀ i j, i < S.m → j < S.m → md i = md j → i = j
  obj : TObj wr tb lb S.m root (if i = S.m then num + 1 else num) mn mx
  only : Only (Own S tb md) w wr
  new : ∀ d, D < d → d ≤ i → w.heap.size ≤ nb d
/-- at the beginning -/
theorem Gi.zero {w : World} {S : Sh} {D x tb lb root num : Nat} {md : Nat → Nat} {mn mx : Option Nat} (v : Int) (nb : Nat → Nat) (hM : Mem w S) (ho : S.Ok) (hL : Lay w S.m lb md S.lk) (hmd : ∀ i j, i < S.m → j < S.m → md i = md j → i = j) (hT : TObj w tb lb S.m root num mn mx) (hD : D < S.m) (hx : S.lk S.m x = none) : Gi w w S D x v nb D tb lb root num md mn mx := by
  obtain ⟨g1, g2⟩ := grow_zero (S := S) (D := D) (x := x) v nb
  refine ⟨fun d p b hd hb => ?_, ?_, by rw [g1]; exact ho.tree, by rw [g1]; exact hL, hmd, by rw [if_neg (by omega)]; exact hT, Only.refl _ _, fun d h1 h2 => by omega⟩
  · have hb' : S.lk d p = some b := by
      have : lkg S.m S.lk D x nb D d p = some b := hb
      rwa [g1] at this
    have h1 := hM d p b hd hb'
    have e1 : (S.grow D x v nb D).entv d p = S.entv d p := by
      unfold Sh.entv
      show (if d = S.m then item p (if p = x then v else S.ent p) else .nilIface) = _
      by_cases hdm : d = S.m
      · subst hdm
        rw [if_pos rfl, if_pos rfl, if_neg (fun e => by subst e; rw [hx] at hb'; cases hb')]
      · rw [if_neg hdm, if_neg hdm]
    have e2 : (S.grow D x v nb D).par d p = S.par d p := by
      cases d with
      | zero => rfl
      | succ d =>
        show lkg S.m S.lk D x nb D d (p / 2) = S.lk d (p / 2)
        rw [g1]
    rw [e1, e2]
    show Nd w b _ (chg S.m S.ch D x nb D d p 0) (chg S.m S.ch D x nb D d p 1) _
    rw [g2]
    exact h1
  · intro d p d' p' b hd hd' h1 h2
    have h1' : lkg S.m S.lk D x nb D d p = some b := h1
    have h2' : lkg S.m S.lk D x nb D d' p' = some b := h2
    rw [g1] at h1' h2'
    exact ho.inj d p d' p' b hd hd' h1' h2'
/-- a level -/
theorem Gi.step {w wr w1 w2 w4 w5 : World} {S : Sh} {D x i tb lb root num n b : Nat} {v : Int} {nb : Nat → Nat} {md : Nat → Nat} {mn mx : Option Nat} {f : Nat → Option Value} (h : Gi w wr S D x v nb i tb lb root num md mn mx) (hdp : S.Deep D x) (ho : S.Ok) (hD : D ≤ i) (hi : i < S.m)
    (hn : lkg S.m S.lk D x nb i i (pre S.m i x) = some n) (h1 : Same wr w1) (hb : wr.heap.size ≤ b) (hnd : Nd w1 b (if i + 1 = S.m then item x v else .nilIface) none none (some n)) (h2 : Only (fun k => k = tb) w1 w2) (hT : TObj w2 tb lb S.m root (if i + 1 = S.m then num + 1 else num) mn mx)
    (h4 : Same (w2.setCell ⟨n, side S.m i x + 1, none⟩ (pb b)) w4) (hf : MapN w4 (md i) f) (hf' : ∀ y, y < 2 ^ S.m → f (cut S.m (i + 1) y) = (lkg S.m S.lk D x nb i (i + 1) (pre S.m (i + 1) y)).map (fun b => op (some b)))
    (h5 : MapN w5 (md i) (fun k => if k = cut S.m (i + 1) x then some (pb b) else f k)) (hg : w4.grownBy w5 (some (md i))) : Gi w w5 S D x v (setN nb (i + 1) b) (i + 1) tb lb root num md mn mx := by
  have hz1 := h1.size
  have hz2 := h2.size
  have hNn : Nd wr n ((S.grow D x v nb i).entv i (pre S.m i x)) (chg S.m S.ch D x nb i i (pre S.m i x) 0) (chg S.m S.ch D x nb i i (pre S.m i x) 1) ((S.grow D x v nb i).par i (pre S.m i x)) := h.mem i _ n (by show i ≤ S.m; omega) hn
  have hnl := hNn.lt
  have htb : tb < wr.heap.size := lt_of_heap h.obj.obj
  have hntb : n ≠ tb := hNn.ne_T h.obj
  have hM1 := h.mem.still h1
  have hM2 : Mem w2 (S.grow D x v nb i) := hM1.keep h2 (fun d p b' hd hb' e => by
    have h6 := (h.mem d p b' hd hb').ne_T h.obj
    exact h6 e)
  have hs2 := side_lt S.m i x
  have hM3 : Mem (w2.setCell ⟨n, side S.m i x + 1, none⟩ (op (some b))) ((S.grow D x v nb i).w (upd (chg S.m S.ch D x nb i) i (pre S.m i x) (side S.m i x) (some b))) := Mem.put (S := S.grow D x v nb i) hM2 h.inj (by show i ≤ S.m; omega) hn hs2 (some b)
  have hM4 := hM3.still h4
  have hO3 : Only (fun k => k = n) w2 (w2.setCell ⟨n, side S.m i x + 1, none⟩ (pb b)) := (Only.refl _ _).setCell ⟨n, side S.m i x + 1, none⟩ _ (fun _ => rfl)
  have hO5 : Only (fun k => k = md i) w4 w5 := Only.grown (S := fun k => k = md i) (Only.refl _ _) hg (fun j _ e => by cases e; rfl)
  have hM5 := hM4.keep hO5 (fun d p b' hd hb' e => (hM4 d p b' hd hb').ne_md hf e)
  have hbn : b ≠ n := by omega
  have hND5 : Nd w5 b (if i + 1 = S.m then item x v else .nilIface) none none (some n) := by
    have a1 := (hnd.keep h2 (fun e => by have : b = tb := e; omega)).keep hO3 hbn
    have a2 := a1.still h4
    exact a2.keep hO5 (fun e => a2.ne_md hf e)
  have hlay1 := h.lay.still h1
  have hlay2 : Lay w2 S.m lb md (lkg S.m S.lk D x nb i) := hlay1.keep h2 (fun e => (h.obj.ne_lb h.lay) e.symm) (fun j hj e => by
    obtain ⟨f', h6, _⟩ := h.lay.maps j hj
    exact (h.obj.ne_md h6) e.symm)
  have hlay3 : Lay (w2.setCell ⟨n, side S.m i x + 1, none⟩ (pb b)) S.m lb md (lkg S.m S.lk D x nb i) := hlay2.keep hO3 (fun e => (Mem.ne_lb h.mem h.lay (by show i ≤ S.m; omega) hn) e.symm) (fun j hj e => by
    obtain ⟨f', h6, _⟩ := h.lay.maps j hj
    exact (hNn.ne_md h6) e.symm)
  have hlay4 := hlay3.still h4
  have hO15 : Only (Own S tb md) w w5 := by
    refine h.only.trans (T := fun k => k = tb ∨ k = n ∨ k = md i) ?_ (fun k hk hk' => ?_)
    · refine Only.trans (S := fun k => k = tb ∨ k = n ∨ k = md i) (h1.mono (fun _ _ f => f.elim)) ?_ (fun _ _ h => h)
      refine Only.trans (S := fun k => k = tb ∨ k = n ∨ k = md i) (h2.mono (fun _ _ e => .inl e)) ?_ (fun _ _ h => h)
      refine Only.trans (S := fun k => k = tb ∨ k = n ∨ k = md i) (hO3.mono (fun _ _ e => .inr (.inl e))) ?_ (fun _ _ h => h)
      refine Only.trans (S := fun k => k = tb ∨ k = n ∨ k = md i) (h4.mono (fun _ _ f => f.elim)) ?_ (fun _ _ h => h)
      exact hO5.mono (fun _ _ e => .inr (.inr e))
    · rcases hk' with rfl | rfl | rfl
      · exact .inl rfl
      · right; right
        have h6 : lkg S.m S.lk D x nb i i (pre S.m i x) = some k := hn
        unfold lkg at h6
        split at h6
        · rename_i h7
          have := h.new i h7.1 (Nat.le_refl _)
          cases h6
          omega
        · exact ⟨i, _, by omega, h6⟩
      · exact .inr (.inl ⟨i, hi, rfl⟩)
  have hlk := lkg_succ (lk := S.lk) (m := S.m) (x := x) (nb := nb) (b := b) hD
  have hfree := lkg_free (nb := nb) hdp ho hD hi
  have hch := chg_step (S := S) (x := x) (nb := nb) hD b
  refine ⟨fun d p b' hd hb' => ?_, fun d p d' p' b' hd hd' e1 e2 => ?_, fun d p hd hne => ?_, ?_, h.mdi, ?_, hO15, fun d e1 e2 => ?_⟩
  · have hb2 : lkg S.m S.lk D x (setN nb (i + 1) b) (i + 1) d p = some b' := hb'
    rw [hlk] at hb2
    show Nd w5 b' _ (chg S.m S.ch D x (setN nb (i + 1) b) (i + 1) d p 0) (chg S.m S.ch D x (setN nb (i + 1) b) (i + 1) d p 1) _
    rw [hch]
    by_cases hc : d = i + 1 ∧ p = pre S.m (i + 1) x
    · obtain ⟨rfl, rfl⟩ := hc
      simp only [and_self, if_true] at hb2 ⊢
      cases hb2
      have e1 : (S.grow D x v (setN nb (i + 1) b) (i + 1)).entv (i + 1) (pre S.m (i + 1) x) = if i + 1 = S.m then item x v else .nilIface := by
        unfold Sh.entv
        show (if i + 1 = S.m then item (pre S.m (i + 1) x) (if pre S.m (i + 1) x = x then v else _) else .nilIface) = _
        by_cases hm : i + 1 = S.m
        · rw [if_pos hm, if_pos hm, hm, pre_full, if_pos rfl]
        · rw [if_neg hm, if_neg hm]
      have e2 : (S.grow D x v (setN nb (i + 1) b) (i + 1)).par (i + 1) (pre S.m (i + 1) x) = some n := by
        show lkg S.m S.lk D x (setN nb (i + 1) b) (i + 1) i (pre S.m (i + 1) x / 2) = some n
        rw [pre_half hi, hlk]
        simp only []
        rw [if_neg (by omega)]
        exact hn
      rw [e1, e2]
      exact hND5
    · simp only [if_neg hc] at hb2 ⊢
      have h6 := hM5 d p b' hd hb2
      have e2 : (S.grow D x v (setN nb (i + 1) b) (i + 1)).par d p = (S.grow D x v nb i).par d p := by
        cases d with
        | zero => rfl
        | succ d =>
          show lkg S.m S.lk D x (setN nb (i + 1) b) (i + 1) d (p / 2) = lkg S.m S.lk D x nb i d (p / 2)
          rw [hlk]
          simp only []
          rw [if_neg (fun ⟨e1, e2⟩ => by
            subst e1
            have := h.tree (i + 1) p (by have hd' : i + 1 + 1 ≤ S.m := hd; omega) (by rw [hb2]; simp)
            rw [e2, hfree] at this
            exact this rfl)]
      rw [e2]
      exact h6
  · have a1 : lkg S.m S.lk D x (setN nb (i + 1) b) (i + 1) d p = some b' := e1
    have a2 : lkg S.m S.lk D x (setN nb (i + 1) b) (i + 1) d' p' = some b' := e2
    rw [hlk] at a1 a2
    have old : ∀ d p, d ≤ S.m → lkg S.m S.lk D x nb i d p = some b' → b' < wr.heap.size := fun d p hd hh => (h.mem d p b' hd hh).lt
    by_cases c1 : d = i + 1 ∧ p = pre S.m (i + 1) x
    · simp only [if_pos c1] at a1
      cases a1
      by_cases c2 : d' = i + 1 ∧ p' = pre S.m (i + 1) x
      · exact ⟨c1.1.trans c2.1.symm, c1.2.trans c2.2.symm⟩
      · simp only [if_neg c2] at a2
        have := old d' p' hd' a2
        omega
    · simp only [if_neg c1] at a1
      by_cases c2 : d' = i + 1 ∧ p' = pre S.m (i + 1) x
      · simp only [if_pos c2] at a2
        cases a2
        have := old d p hd a1
        omega
      · simp only [if_neg c2] at a2
        exact h.inj d p d' p' b' hd hd' a1 a2
  · rw [hlk] at hne ⊢
    simp only [] at hne ⊢
    by_cases c2 : d = i + 1 ∧ p / 2 = pre S.m (i + 1) x
    · rw [if_pos c2]; simp
    · rw [if_neg c2]
      by_cases c1 : d + 1 = i + 1 ∧ p = pre S.m (i + 1) x
      · obtain ⟨c3, rfl⟩ := c1
        obtain rfl : d = i := by omega
        rw [pre_half hi, hn]; simp
      · rw [if_neg c1] at hne
        exact h.tree d p hd hne
  · have hO5' := hO5
    refine ⟨hlay4.m2, fun j hj => (hO5.cell (p := ⟨lb, j, none⟩) hlay4.lb (fun e => (hlay4.ne_md hf) e)).trans (hlay4.row j hj), Nat.lt_of_lt_of_le hlay4.lb hO5.size, fun j hj => ?_⟩
    by_cases hji : j = i
    · subst hji
      refine ⟨_, h5, fun y hy => ?_⟩
      rw [hlk]
      simp only []
      by_cases hc : cut S.m (j + 1) y = cut S.m (j + 1) x
      · rw [if_pos hc, if_pos ⟨by trivial, cut_eq hc⟩]; rfl
      · rw [if_neg hc, if_neg (fun h => hc (cut_of h.2))]
        exact hf' y hy
    · obtain ⟨f', h6, h7⟩ := hlay4.maps j hj
      refine ⟨f', h6.of_heap (hO5.block _ h6.lt (fun e => hji (h.mdi j i hj hi e))), fun y hy => ?_⟩
      rw [hlk]
      simp only []
      rw [if_neg (by omega)]
      exact h7 y hy
  · have t2 := (hT.keep hO3 (fun e => hntb e.symm)).still h4
    exact t2.keep hO5 (fun e => (t2.ne_md hf) e)
  · unfold setN
    by_cases hc : d = i + 1
    · rw [if_pos hc]; have := h.only.size; omega
    · rw [if_neg hc]; exact h.new d e1 (by omega)
end Go.Proofs.YtcjifjfcjimefaaDoor.xf

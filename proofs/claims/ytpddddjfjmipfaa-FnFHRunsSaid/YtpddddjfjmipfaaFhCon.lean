/-
  DequeueMin: trees of one degree are hung one under the other (plain law and states).
-/
import Derived.Test.YtpddddjfjmipfaaFhDq1
namespace Go.Proofs.Ytpddddjfjmipfaa.fh
open Go.RowKit Go.Proofs.Ytpddddjfjmipfaa.base Go.Proofs.Ytpddddjfjmipfaa.heap Go.Proofs.Ytpddddjfjmipfaa.rows Go.Proofs.Ytpddddjfjmipfaa.flt
set_option linter.unusedVariables false

theorem len_sub : ∀ {l m : List Nat}, l.Nodup → (∀ b ∈ l, b ∈ m) → l.length ≤ m.length
  | [], m, _, _ => Nat.zero_le _
  | a :: l, m, h, hs => by
    have ha : a ∈ m := hs a (by simp)
    have h1 := List.nodup_cons.1 h
    have := len_sub (l := l) (m := m.erase a) h1.2 (fun b hb => by
      have hne : b ≠ a := fun e => h1.1 (e ▸ hb)
      exact (List.mem_erase_of_ne hne).2 (hs b (by simp [hb])))
    rw [List.length_erase_of_mem ha] at this
    have := List.length_pos_of_mem ha
    simp only [List.length_cons]
    omega

/-- between two rounds: i of the list V have been gone through -/
structure Pl (F : Fs) (G : Gs) (V : List Nat) (T : List (Option Nat)) (i h : Nat) : Prop where
  sub : ∀ r ∈ G .root, r ∈ V
  rest : ∀ k b, i ≤ k → V[k]? = some b → b ∈ G .root
  tree : ∀ (d t : Nat), T[d]? = some (some t) → t ∈ G .root ∧ F.deg t = (d : Int) ∧ ∃ k, k < i ∧ V[k]? = some t
  hr : h ∈ G .root
  low : ∀ k v, k < i → V[k]? = some v → fval (F.pr h) ≤ fval (F.pr v)
/-- in the course of a round: the tree of c -/
structure Pc (F : Fs) (G : Gs) (V : List Nat) (T : List (Option Nat)) (i h c : Nat) : Prop where
  sub : ∀ r ∈ G .root, r ∈ V
  rest : ∀ k b, i + 1 ≤ k → V[k]? = some b → b ∈ G .root
  tree : ∀ (d t : Nat), T[d]? = some (some t) → t ∈ G .root ∧ F.deg t = (d : Int) ∧ t ≠ c ∧ ∃ k, k < i + 1 ∧ V[k]? = some t
  cr : c ∈ G .root
  ck : ∃ k, k < i + 1 ∧ V[k]? = some c
  hr : h ∈ G .root ∨ fval (F.pr c) ≤ fval (F.pr h)
  low : ∀ k v, k < i → V[k]? = some v → fval (F.pr h) ≤ fval (F.pr v)
  cl : ∀ v, V[i]? = some v → fval (F.pr c) ≤ fval (F.pr v)
section
variable {F F' : Fs} {G G' : Gs} {V : List Nat} {T : List (Option Nat)} {i h c : Nat}
theorem nodup_at (hV : V.Nodup) {j k b : Nat} (h1 : V[j]? = some b) (h2 : V[k]? = some b) : j = k := by
  obtain ⟨a1, b1⟩ := List.getElem?_eq_some_iff.1 h1
  obtain ⟨a2, b2⟩ := List.getElem?_eq_some_iff.1 h2
  exact (List.getElem_inj hV).1 (b1.trans b2.symm)
theorem Pl.start (hp : Pl F G V T i h) (hV : V.Nodup) (hc : V[i]? = some c) : Pc F G V T i h c :=
  ⟨hp.sub, fun k b hk hb => hp.rest k b (by omega) hb, fun d t ht => by
    obtain ⟨h1, h2, k, h3, h4⟩ := hp.tree d t ht
    exact ⟨h1, h2, fun e => by subst e; have := nodup_at hV h4 hc; omega, k, by omega, h4⟩, hp.rest i c (Nat.le_refl _) hc, ⟨i, by omega, hc⟩, .inl hp.hr, hp.low, fun v hv => by rw [hc] at hv; cases hv; exact Int.le_refl _⟩
theorem tree_nil {T : List (Option Nat)} {d t : Nat} (h : (T ++ [none])[d]? = some (some t)) : T[d]? = some (some t) := by
  rw [List.getElem?_append] at h
  split at h
  · exact h
  · rename_i hd
    by_cases e : d - T.length = 0
    · rw [e] at h; cases h
    · rw [List.getElem?_eq_none (by simp; omega)] at h; cases h
theorem Pc.grow (hp : Pc F G V T i h c) : Pc F G V (T ++ [none]) i h c := { hp with tree := fun d t ht => hp.tree d t (tree_nil ht) }
/-- no tree of that degree yet: the tree is noted, the least is brought up to date -/
theorem Pc.done (hp : Pc F G V T i h c) (hV : V.Nodup) {d : Nat} (hd : F.deg c = (d : Int)) : Pl F G V (T.set d (some c)) (i + 1) (if fval (F.pr c) ≤ fval (F.pr h) then c else h) := by
  refine ⟨hp.sub, hp.rest, fun e t ht => ?_, ?_, fun k v hk hv => ?_⟩
  · rw [List.getElem?_set] at ht
    split at ht
    · rename_i e1
      subst e1
      split at ht
      · cases ht
        exact ⟨hp.cr, hd, hp.ck⟩
      · cases ht
    · obtain ⟨h1, h2, _, h3⟩ := hp.tree e t ht
      exact ⟨h1, h2, h3⟩
  · split
    · exact hp.cr
    · rename_i hn
      exact hp.hr.resolve_right hn
  · by_cases e : k = i
    · subst e
      have := hp.cl v hv
      split
      · exact this
      · omega
    · have := hp.low k v (by omega) hv
      split
      · omega
      · exact this
/-- two trees of one degree: z is hung under a -/
theorem Pc.link (hp : Pc F G V T i h c) {d o a z : Nat} (hV : V.Nodup) (hd : F.deg c = (d : Int)) (ho : T[d]? = some (some o)) (haz : (a = o ∧ z = c) ∨ (a = c ∧ z = o)) (hle : fval (F.pr a) ≤ fval (F.pr z)) (hpr : F'.pr = F.pr) (hdg : F'.deg = put F.deg a (F.deg a + 1))
    (hroot : ∀ b, b ∈ G' .root ↔ b ∈ G .root ∧ b ≠ z) : Pc F' G' V (T.set d none) i h a := by
  obtain ⟨o1, o2, o3, o4⟩ := hp.tree d o ho
  have hne : a ≠ z := by rcases haz with ⟨rfl, rfl⟩ | ⟨rfl, rfl⟩ <;> (first | exact o3 | exact fun e => o3 e.symm)
  have hzk : ∃ k, k < i + 1 ∧ V[k]? = some z := by rcases haz with ⟨rfl, rfl⟩ | ⟨rfl, rfl⟩ <;> (first | exact hp.ck | exact o4)
  have hac : fval (F.pr a) ≤ fval (F.pr c) := by rcases haz with ⟨rfl, rfl⟩ | ⟨rfl, rfl⟩ <;> (first | exact hle | exact Int.le_refl _)
  have har : a ∈ G .root := by rcases haz with ⟨rfl, rfl⟩ | ⟨rfl, rfl⟩ <;> (first | exact o1 | exact hp.cr)
  refine ⟨fun r hr => hp.sub r ((hroot r).1 hr).1, fun k b hk hb => ?_, fun e t ht => ?_, (hroot a).2 ⟨har, hne⟩, ?_, ?_, fun k v hk hv => by rw [hpr]; exact hp.low k v hk hv, fun v hv => by rw [hpr]; exact Int.le_trans hac (hp.cl v hv)⟩
  · refine (hroot b).2 ⟨hp.rest k b hk hb, fun e => ?_⟩
    subst e
    obtain ⟨k2, h2, h3⟩ := hzk
    have := nodup_at hV hb h3
    omega
  · rw [List.getElem?_set] at ht
    split at ht
    · split at ht <;> cases ht
    · rename_i hde
      obtain ⟨h1, h2, h3, h4⟩ := hp.tree e t ht
      have hto : t ≠ o := fun e1 => by subst e1; rw [o2] at h2; exact hde (by omega)
      have hta : t ≠ a := by rcases haz with ⟨rfl, rfl⟩ | ⟨rfl, rfl⟩ <;> (first | exact hto | exact h3)
      have htz : t ≠ z := by rcases haz with ⟨rfl, rfl⟩ | ⟨rfl, rfl⟩ <;> (first | exact h3 | exact hto)
      exact ⟨(hroot t).2 ⟨h1, htz⟩, by rw [hdg, put_other hta]; exact h2, hta, h4⟩
  · rcases haz with ⟨rfl, rfl⟩ | ⟨rfl, rfl⟩ <;> (first | exact o4 | exact hp.ck)
  · rw [hpr]
    rcases hp.hr with h1 | h1
    · by_cases e : h = z
      · subst e; exact .inr hle
      · exact .inl ((hroot h).2 ⟨h1, e⟩)
    · exact .inr (by omega)
end

/-- the heap, in the course of DequeueMin's second half -/
structure Cs (hb x : Nat) (A : List Nat) (pr : Nat → Nat) (w wx : World) (F : Fs) (G : Gs) (h : Nat) : Prop where
  ob : HObj wx hb (some h) (A.erase x).length
  mem : Mem wx F (· ∈ A.erase x)
  fo : Fo F G (A.erase x) []
  ord : Ord F G (fun _ => False)
  prr : ∀ u ∈ A.erase x, F.pr u = pr u
  nin : hb ∉ A
  only : Only (Fp hb A) w wx
  x6 : X6 wx x (pr x)
  xA : x ∈ A
  old : ∀ k, Fp hb A k → k < w.heap.size
  xn : x ∉ A.erase x
/-- the two slices -/
structure Sl (w wx : World) (va : Option Addr) (n vc : Nat) (V : List Nat) (ta : Option Addr) (m tc : Nat) (T : List (Option Nat)) : Prop where
  tr : OL 45 po wx ta m tc T
  vi : OL 45 pp wx va n vc V
  tf : ∀ k, At ta k → w.heap.size ≤ k
  vf : ∀ k, At va k → w.heap.size ≤ k
  dj : ∀ k, At ta k → ¬ At va k
section
variable {hb x n vc m tc h : Nat} {A V : List Nat} {T : List (Option Nat)} {pr : Nat → Nat} {w wx wy : World} {F F' : Fs} {G G' : Gs} {va ta : Option Addr} {S : Nat → Prop}
/-- blocks that are new, or the call's own slices, are written -/
theorem Cs.keep (hc : Cs hb x A pr w wx F G h) (ho : Only S wx wy) (hs : ∀ k, S k → w.heap.size ≤ k) : Cs hb x A pr w wy F G h := by
  have hA : ∀ k, k ∈ A → ¬ S k := fun k hk h1 => by have := hs k h1; have := hc.old k (.inr hk); omega
  have hh : ¬ S hb := fun h1 => by have := hs hb h1; have := hc.old hb (.inl rfl); omega
  refine ⟨hc.ob.keep ho hh, hc.mem.keep ho (fun k hk => hA k (List.mem_of_mem_erase hk)), hc.fo, hc.ord, hc.prr, hc.nin, hc.only.trans ho (fun k hk h1 => by have := hs k h1; omega), ?_, hc.xA, hc.old, hc.xn⟩
  have hx := hc.old x (.inr hc.xA)
  have h2 := hc.only.size
  exact hc.x6.keep ho (hA x hc.xA)
theorem Sl.keep (hs : Sl w wx va n vc V ta m tc T) (ho : Only S wx wy) (h1 : ∀ k, S k → k < w.heap.size) : Sl w wy va n vc V ta m tc T :=
  ⟨hs.tr.keep ho (fun k hk h2 => by have := hs.tf k hk; have := h1 k h2; omega), hs.vi.keep ho (fun k hk h2 => by have := hs.vf k hk; have := h1 k h2; omega), hs.tf, hs.vf, hs.dj⟩
end
theorem slE : SliceOf Try.prog 52 45 1 8 := SliceOf.mk (z := .pointer none) Try.underlying52 (by kernel_rfl) rfl
theorem make0_eq {P : Program} {e size : Nat} {t : Nat} {z : Value} {bytes : Nat} (kl kc : IntKind) (ht : P.underlying t = some (.slice e)) (h' : (P.info? e).map (fun i => (i.zero, i.size, i.bytes)) = some (some z, size, bytes)) (k : Nat)
    (hb : bytes * k ≤ 281474976710656) (hk : k ≤ 9223372036854775807) (w : World) :
    (Instr.makeSlice t (.int kl 0) (.int kc (k : Int))).run P w = .ok (.slice (some ⟨w.heap.size, 0, none⟩) 0 k) (w.alloc (.cells (madeCells z.cells (k * size)) e)) := by
  obtain ⟨i, hi, h1, h2, h3⟩ := info_parts h'
  have h := run_make (P := P) w t e i z ht hi h1 kl kc 0 (k : Int) (by omega) (by omega) (by rw [h3]; have : ((bytes * k : Nat) : Int) = (bytes : Int) * (k : Int) := Int.natCast_mul _ _; omega) (by omega)
  rw [h2, Int.toNat_natCast] at h
  exact h
theorem make_ents (k : Nat) (hk : k < 1000000) (w : World) : (Instr.makeSlice 52 (.int .i64 0) (.int .u64 (k : Int))).run Try.prog w = .ok (.slice (some ⟨w.heap.size, 0, none⟩) 0 k) (w.alloc (.cells (madeCells #[Value.pointer none] k) 45)) := by
  have := make0_eq (P := Try.prog) (e := 45) (size := 1) (t := 52) (z := .pointer none) (bytes := 8) .i64 .u64 Try.underlying52 (by kernel_rfl) k (by omega) (by omega) w
  rw [Nat.mul_one] at this
  exact this
/-- both are made -/
theorem Sl.made {w w3 : World} (n : Nat) (hn : n < 1000000) (hs : w.heap.size ≤ w3.heap.size) : Sl w ((w3.alloc (.cells (madeCells #[Value.pointer none] n) 45)).alloc (.cells (madeCells #[Value.pointer none] n) 45)) (some ⟨w3.heap.size + 1, 0, none⟩) 0 n [] (some ⟨w3.heap.size, 0, none⟩) 0 n [] := by
  have hO : Same (w3.alloc (.cells (madeCells #[Value.pointer none] n) 45)) ((w3.alloc (.cells (madeCells #[Value.pointer none] n) 45)).alloc (.cells (madeCells #[Value.pointer none] n) 45)) := (Only.refl _ _).alloc _
  refine ⟨⟨?_, rfl⟩, ⟨?_, rfl⟩, fun k hk => ?_, fun k hk => ?_, fun k h1 h2 => ?_⟩
  · have := (Own.of_block (e := 45) (size := 1) (heap_alloc_new w3 (.cells (madeCells #[Value.pointer none] n) 45)) 0 n (Nat.zero_le _) (by unfold maxLen; omega) (by simp [madeCells]) (by simp)).keep hO (fun _ _ h => h)
    simpa using this
  · have := Own.of_block (e := 45) (size := 1) (heap_alloc_new (w3.alloc (.cells (madeCells #[Value.pointer none] n) 45)) (.cells (madeCells #[Value.pointer none] n) 45)) 0 n (Nat.zero_le _) (by unfold maxLen; omega) (by simp [madeCells]) (by simp)
    simpa using this
  · have : w3.heap.size = k := hk
    omega
  · have : w3.heap.size + 1 = k := hk
    omega
  · have h3 : w3.heap.size = k := h1
    have h4 : w3.heap.size + 1 = k := h2
    omega
section
variable {hb x n vc m tc h c d bt : Nat} {A V : List Nat} {T : List (Option Nat)} {pr : Nat → Nat} {w wx wy : World} {F F' : Fs} {G G' : Gs} {va ta : Option Addr} {S : Nat → Prop}
theorem Cs.drewN (hc : Cs hb x A pr w wx F G h) (k : Nat) : Cs hb x A pr w (wx.drewN k) F G h := hc.keep (S := fun _ => False) ((Only.refl _ wx).drewN k) (fun _ h => h.elim)
theorem Sl.drewN (hs : Sl w wx va n vc V ta m tc T) (k : Nat) : Sl w (wx.drewN k) va n vc V ta m tc T := hs.keep (S := fun _ => False) ((Only.refl _ wx).drewN k) (fun _ h => h.elim)
theorem Cs.setMin (hc : Cs hb x A pr w wx F G h) (c : Nat) : Cs hb x A pr w (wx.setCell ⟨hb, 0, none⟩ (pp c)) F G c := by
  have hO : Only (fun j => j = hb) wx (wx.setCell ⟨hb, 0, none⟩ (pp c)) := (Only.refl (fun j => j = hb) wx).setCell ⟨hb, 0, none⟩ _ (fun _ => rfl)
  have hnx : ∀ j, j ∈ A → ¬ (j = hb) := fun j hj e => hc.nin (e ▸ hj)
  refine ⟨HObj.set0 hc.ob (some c), hc.mem.keep hO (fun j hj => hnx j (List.mem_of_mem_erase hj)), hc.fo, hc.ord, hc.prr, hc.nin, hc.only.trans hO (fun j _ hj => .inl hj), ?_, hc.xA, hc.old, hc.xn⟩
  have hx := hc.old x (.inr hc.xA)
  have h2 := hc.only.size
  exact hc.x6.keep hO (hnx x hc.xA)
theorem Sl.setMin (hs : Sl w wx va n vc V ta m tc T) (hold : hb < w.heap.size) (v : Value) : Sl w (wx.setCell ⟨hb, 0, none⟩ v) va n vc V ta m tc T :=
  hs.keep (S := fun j => j = hb) ((Only.refl (fun j => j = hb) wx).setCell ⟨hb, 0, none⟩ _ (fun _ => rfl)) (fun k e => by have : k = hb := e; omega)
/-- a cell of the trees' slice -/
theorem Sl.at (hs : Sl w wx va n vc V ta m tc T) (hd : d < m) : ∃ bt v, ta = some ⟨bt, 0, none⟩ ∧ wx.cell? ⟨bt, d, none⟩ = some (po v) ∧ T[d]? = some v ∧ wx.frozen? ⟨bt, d, none⟩ = false := by
  obtain ⟨bt, hbt, _, hc⟩ := hs.tr.1.at (by omega)
  have hl := hs.tr.2
  have h1 : T[d]? = some (T[d]'(by omega)) := List.getElem?_eq_getElem _
  refine ⟨bt, _, hbt, ?_, h1, hs.tr.1.frozen hbt d⟩
  have := hc d (po (T[d]'(by omega))) (by rw [List.getElem?_map, h1]; rfl)
  rwa [Nat.zero_add] at this
theorem Sl.set (hs : Sl w wx va n vc V (some ⟨bt, 0, none⟩) m tc T) (hd : d < m) (v : Option Nat) : Sl w (wx.setCell ⟨bt, d, none⟩ (po v)) va n vc V (some ⟨bt, 0, none⟩) m tc (T.set d v) := by
  have hO : Only (At (some ⟨bt, 0, none⟩)) wx (wx.setCell ⟨bt, d, none⟩ (po v)) := (Only.refl (At (some ⟨bt, 0, none⟩)) wx).setCell ⟨bt, d, none⟩ _ (fun _ => rfl)
  refine ⟨⟨?_, by rw [List.length_set]; exact hs.tr.2⟩, hs.vi.keep hO (fun k hk h2 => hs.dj k h2 hk), hs.tf, hs.vf, hs.dj⟩
  have := hs.tr.1.set (b := bt) rfl d (po v) (by cases v <;> rfl) (by omega)
  rw [List.map_set]
  exact this
theorem Cs.setT (hc : Cs hb x A pr w wx F G h) (hs : Sl w wx va n vc V (some ⟨bt, 0, none⟩) m tc T) (v : Value) : Cs hb x A pr w (wx.setCell ⟨bt, d, none⟩ v) F G h :=
  hc.keep (S := At (some ⟨bt, 0, none⟩)) ((Only.refl (At (some ⟨bt, 0, none⟩)) wx).setCell ⟨bt, d, none⟩ _ (fun _ => rfl)) hs.tf
/-- a longer slice of trees -/
theorem Sl.grew (hc : Cs hb x A pr w wx F G h) (hs : Sl w wx va n vc V ta m tc T) {o : Obj} {ta' : Option Addr} {tc' : Nat} (hG : Grew 45 1 (wx.alloc o) wy ta ta' 1 (m + 1) tc tc' (T.map po ++ [Value.pointer none])) :
    Cs hb x A pr w wy F G h ∧ Sl w wy va n vc V ta' (m + 1) tc' (T ++ [none]) := by
  have hO : Only (At ta) wx wy := Only.trans (S := At ta) ((Only.refl (At ta) wx).alloc _) hG.only (fun _ _ h => h)
  refine ⟨hc.keep hO hs.tf, ⟨⟨?_, ?_⟩, hs.vi.keep hO (fun k hk h9 => hs.dj k h9 hk), fun k hk => ?_, hs.vf, fun k hk h9 => ?_⟩⟩
  · rw [List.map_append]; exact hG.own
  · rw [List.length_append, hs.tr.2]; rfl
  · rcases hG.fresh k hk with h8 | h8
    · exact hs.tf k h8
    · have := hc.only.size; simp at h8; omega
  · rcases hG.fresh k hk with h8 | h8
    · exact hs.dj k h8 h9
    · have := hs.vi.1.lt k h9; simp at h8; omega
end

/-- what mergeLists hands back where z is hung under a -/
def LinkP (F : Fs) (G : Gs) (B : List Nat) (a z : Nat) (wx : World) (e : Ending) (w3 : World) : Prop :=
  ∃ y F1 G', e = .returned (po (some y)) ∧ Mem w3 F1 (· ∈ B) ∧ Only (· ∈ B) wx w3 ∧ F1.deg = F.deg ∧ F1.pr = F.pr ∧ Fo (Lk2 F1 a z y) G' B [] ∧ (∀ b, b ∈ G' .root ↔ b ∈ G .root ∧ b ≠ z) ∧ (∀ q b, b ∈ G' (.kid q) → b ∈ G (.kid q) ∨ (q = a ∧ b = z))
theorem link_merge {F : Fs} {G : Gs} {B : List Nat} {a z : Nat} {wx : World} (h : Fo F G B []) (ha : a ∈ G .root) (hz : z ∈ G .root) (haz : a ≠ z) (hM : Mem wx (Lk1 F z) (· ∈ B)) :
    Calls Try.prog 40 #[po (F.ch a), pp z] wx (LinkP F G B a z wx) := by
  obtain ⟨G', h1, h2, h3⟩ := h.link ha hz haz
  have haB := h.mem ha
  have hzB := h.mem hz
  rcases h.ch a haB with ⟨hc, hk⟩ | ⟨c, hc, hk⟩
  · rw [hc] at h1 ⊢
    refine (merge_nil1 (some z) wx).mono ?_
    rintro e w3 ⟨he, rfl⟩
    exact ⟨z, _, G', he, hM, Only.refl _ _, rfl, rfl, h1, h2, h3⟩
  · rw [hc] at h1 ⊢
    have hcB := h.mem hk
    have hcz : c ≠ z := fun e => by have := h.rings.disj _ _ c hk (e ▸ hz); cases this
    have hcp : c ≠ F.pv z := fun e => by have := h.rings.disj _ _ c hk (e ▸ ring_pv_mem (h.rings.ring .root) z hz); cases this
    have e1 : (Lk1 F z).nx c = F.nx c := by
      show put (put F.nx (F.pv z) (F.nx z)) z z c = _
      rw [put_other hcz, put_other hcp]
    have e2 : (Lk1 F z).nx z = z := put_same
    have hnk := ring_nx_mem (h.rings.ring (.kid a)) c hk
    refine (merge2 c z (Lk1 F z) (· ∈ B) wx hM hcB hzB (by rw [e1]; exact h.mem hnk) (by rw [e2]; exact hzB) hcz (by rw [e1, e2]; exact fun e => by have := h.rings.disj _ _ _ hnk (e ▸ hz); cases this) (h.fin c hcB) (h.fin z hzB)).mono ?_
    rintro e w3 ⟨he, hM3, hO3⟩
    refine ⟨_, _, G', he, hM3, hO3, rfl, rfl, h1 _ ?_, h2, h3⟩
    split
    · exact .inl rfl
    · exact .inr rfl
/-- the four words that are turned behind it -/
def lkW (w3 : World) (F1 : Fs) (a z y : Nat) : World :=
  (((w3.setCell ⟨a, 4, none⟩ (pp y)).setCell ⟨z, 5, none⟩ (pp a)).setCell ⟨z, 1, none⟩ (.bool false)).setCell ⟨a, 0, none⟩ (.int .i64 (F1.deg a + 1))
theorem lk_mem {F1 : Fs} {B : List Nat} {a z y : Nat} {w3 : World} (hM : Mem w3 F1 (· ∈ B)) (ha : a ∈ B) (hz : z ∈ B) : Mem (lkW w3 F1 a z y) (Lk2 F1 a z y) (· ∈ B) ∧ Only (· ∈ B) w3 (lkW w3 F1 a z y) := by
  refine ⟨?_, ?_⟩
  · have h1 := hM.setCh ha (some y)
    have h2 := h1.setPa hz (some a)
    have h3 := h2.setMk hz false
    have h4 := h3.setDeg ha (F1.deg a + 1)
    exact h4
  · exact ((((Only.refl (· ∈ B) w3).setCell ⟨a, 4, none⟩ _ (fun _ => ha)).setCell ⟨z, 5, none⟩ _ (fun _ => hz)).setCell ⟨z, 1, none⟩ _ (fun _ => hz)).setCell ⟨a, 0, none⟩ _ (fun _ => ha)
/-- the four words that are turned ahead of it -/
def ukW (wx : World) (u v z : Nat) : World :=
  (((wx.setCell ⟨u, 3, none⟩ (pp v)).setCell ⟨v, 2, none⟩ (pp u)).setCell ⟨z, 3, none⟩ (pp z)).setCell ⟨z, 2, none⟩ (pp z)
theorem uk_mem {F : Fs} {B : List Nat} {u v z : Nat} {wx : World} (hM : Mem wx F (· ∈ B)) (hz : z ∈ B) (hn : u ∈ B) (hp : v ∈ B) (eu : F.nx z = u) (ev : F.pv z = v) : Mem (ukW wx u v z) (Lk1 F z) (· ∈ B) := by
  subst eu ev
  have h1 := hM.setPv hn (F.pv z)
  have h2 := h1.setNx hp (F.nx z)
  have h3 := h2.setPv hz z
  have h4 := h3.setNx hz z
  exact h4
theorem Mem.of_heap {w w' : World} {F : Fs} {P : Nat → Prop} (h : Mem w F P) (e : w'.heap = w.heap) : Mem w' F P := fun b hb => by have := h b hb; unfold NodeAt at this ⊢; rw [e]; exact this
theorem uk_ne {F : Fs} {G : Gs} {B X : List Nat} {a z : Nat} (h : Fo F G B X) (ha : a ∈ G .root) (hz : z ∈ G .root) (hne : a ≠ z) : F.nx z ≠ z ∧ F.pv z ≠ z ∧ F.nx z ∈ B ∧ F.pv z ∈ B := by
  have hr0 := h.rings.ring .root
  have hn := ring_nx_mem hr0 z hz
  have hp := ring_pv_mem hr0 z hz
  obtain ⟨G1, l, q1, q2, q3, h1⟩ := h.front hz
  have hr := h1.rings.ring .root
  have hnd := h1.rings.nodup .root
  rw [q1] at hr hnd
  have hl : l ≠ [] := fun e => by
    have := (q3 .root).mem_iff.2 ha
    rw [q1, e] at this
    simp at this
    exact hne this
  have h2 : F.nx z ≠ z := fun e => hl ((ring_alone hr hnd).1 e)
  exact ⟨h2, h.pv_ne hz h2, h.mem hn, h.mem hp⟩
theorem gen_wp {P : Program} {c : Code} {Q : Exit → Act → World → Prop} {fr : Act} {w : World} {S : World → Prop} (h : S w) (k : ∀ w8, S w8 → Code.wp P c Q fr w8) : Code.wp P c Q fr w := k w h
/-- all of it: z has been hung under a -/
theorem link_all {hb x vc m tc h c d nv i a z o y : Nat} {A V : List Nat} {T : List (Option Nat)} {pr : Nat → Nat} {w wx w3 : World} {F F1 : Fs} {G G' : Gs} {va ta : Option Addr} (hc : Cs hb x A pr w wx F G h) (hs : Sl w wx va nv vc V ta m tc (T.set d none)) (hP : Pc F G V T i h c) (hV : V.Nodup)
    (hd : F.deg c = (d : Int)) (ho : T[d]? = some (some o)) (haz : (a = o ∧ z = c) ∨ (a = c ∧ z = o)) (hle : fval (F.pr a) ≤ fval (F.pr z)) (ha : a ∈ G .root) (hz : z ∈ G .root) (hne : a ≠ z)
    (hO : Only (· ∈ A.erase x) wx w3) (hM : Mem w3 F1 (· ∈ A.erase x)) (e1 : F1.deg = F.deg) (e2 : F1.pr = F.pr) (hf : Fo (Lk2 F1 a z y) G' (A.erase x) []) (hr : ∀ b, b ∈ G' .root ↔ b ∈ G .root ∧ b ≠ z) (hk : ∀ q b, b ∈ G' (.kid q) → b ∈ G (.kid q) ∨ (q = a ∧ b = z)) :
    Cs hb x A pr w (lkW w3 F1 a z y) (Lk2 F1 a z y) G' h ∧ Sl w (lkW w3 F1 a z y) va nv vc V ta m tc (T.set d none) ∧ Pc (Lk2 F1 a z y) G' V (T.set d none) i h a ∧ (G' .root).length < (G .root).length := by
  have haB := hc.fo.mem ha
  have hzB := hc.fo.mem hz
  obtain ⟨hM4, hO4⟩ := lk_mem (y := y) hM haB hzB
  have hOO := hO.trans hO4 (fun _ _ h => h)
  have hold : ∀ k, k ∈ A.erase x → k < w.heap.size := fun k hk => hc.old k (.inr (List.mem_of_mem_erase hk))
  have hxn := hc.xn
  refine ⟨⟨hc.ob.keep hOO (fun h9 => hc.nin (List.mem_of_mem_erase h9)), hM4, hf, fun q b hq hn => ?_, fun u hu => ?_, hc.nin, hc.only.trans hOO (fun k _ hk => .inr (List.mem_of_mem_erase hk)), ?_, hc.xA, hc.old, hc.xn⟩, hs.keep hOO hold, hP.link hV hd ho haz hle e2 (by show put F1.deg a (F1.deg a + 1) = _; rw [e1]) hr, ?_⟩
  · show fval (F1.pr q) ≤ fval (F1.pr b)
    rw [e2]
    rcases hk q b hq with h9 | ⟨rfl, rfl⟩
    · exact hc.ord q b h9 hn
    · exact hle
  · show F1.pr u = _
    rw [e2]; exact hc.prr u hu
  · have hx := hc.old x (.inr hc.xA)
    have h2 := hc.only.size
    exact hc.x6.keep hOO hxn
  · have h9 := len_sub (l := z :: G' .root) (m := G .root) (List.nodup_cons.2 ⟨fun h8 => ((hr z).1 h8).2 rfl, hf.rings.nodup .root⟩) (fun b hb' => by
      rcases List.mem_cons.1 hb' with rfl | h8
      · exact hz
      · exact ((hr b).1 h8).1)
    simp only [List.length_cons] at h9
    omega
end Go.Proofs.Ytpddddjfjmipfaa.fh

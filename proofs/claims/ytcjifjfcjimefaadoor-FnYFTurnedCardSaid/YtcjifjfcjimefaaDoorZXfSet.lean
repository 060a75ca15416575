/-
  An x-fast trie as a list of entries in the order of their keys; its methods.
-/
import Derived.Test.YtcjifjfcjimefaaDoorZXfNewC
import Derived.Test.YtcjifjfcjimefaaDoorZXfMade
namespace Go.Proofs.YtcjifjfcjimefaaDoor.xf
open Go.RowKit Go.Proofs.YtcjifjfcjimefaaDoor.base Go.Proofs.YtcjifjfcjimefaaDoor.heap Go.Proofs.YtcjifjfcjimefaaDoor.rows Go.Proofs.YtcjifjfcjimefaaDoor.mapn
set_option linter.unusedVariables false
variable [Inhabited Kd]

/-- an entry: its key and its number -/
abbrev It := Nat × Int
/-- the list with an entry -/
def put : List It → Nat → Int → List It
  | [], k, v => [(k, v)]
  | y :: r, k, v => if k < y.1 then (k, v) :: y :: r else if k = y.1 then (k, v) :: r else y :: put r k v
/-- the keys ascend -/
def Asc (L : List It) : Prop := L.Pairwise fun a b => a.1 < b.1
omit [Inhabited Kd] in
theorem put_mem {L : List It} (h : Asc L) (k : Nat) (v : Int) (z : It) : z ∈ put L k v ↔ z = (k, v) ∨ (z.1 ≠ k ∧ z ∈ L) := by
  induction L with
  | nil => simp [put]
  | cons y r ih =>
    obtain ⟨h1, h2⟩ := List.pairwise_cons.1 h
    unfold put
    by_cases c1 : k < y.1
    · rw [if_pos c1, List.mem_cons]
      constructor
      · rintro (e | e)
        · exact .inl e
        · refine .inr ⟨?_, e⟩
          rcases List.mem_cons.1 e with rfl | e'
          · omega
          · have := h1 z e'; omega
      · rintro (e | ⟨_, e⟩)
        · exact .inl e
        · exact .inr e
    · rw [if_neg c1]
      by_cases c2 : k = y.1
      · rw [if_pos c2, List.mem_cons, List.mem_cons]
        constructor
        · rintro (e | e)
          · exact .inl e
          · exact .inr ⟨by have := h1 z e; omega, .inr e⟩
        · rintro (e | ⟨e, e' | e'⟩)
          · exact .inl e
          · subst e'; exact absurd c2.symm e
          · exact .inr e'
      · rw [if_neg c2, List.mem_cons, List.mem_cons, ih h2]
        constructor
        · rintro (rfl | e | ⟨e, e'⟩)
          · exact .inr ⟨fun h => c2 h.symm, .inl rfl⟩
          · exact .inl e
          · exact .inr ⟨e, .inr e'⟩
        · rintro (e | ⟨e, e' | e'⟩)
          · exact .inr (.inl e)
          · exact .inl e'
          · exact .inr (.inr ⟨e, e'⟩)
omit [Inhabited Kd] in
theorem put_asc {L : List It} (h : Asc L) (k : Nat) (v : Int) : Asc (put L k v) := by
  induction L with
  | nil => simp [put, Asc]
  | cons y r ih =>
    obtain ⟨h1, h2⟩ := List.pairwise_cons.1 h
    unfold put
    by_cases c1 : k < y.1
    · rw [if_pos c1]
      refine List.pairwise_cons.2 ⟨fun z hz => ?_, h⟩
      rcases List.mem_cons.1 hz with rfl | e'
      · exact c1
      · have := h1 z e'; show k < z.1; omega
    · rw [if_neg c1]
      by_cases c2 : k = y.1
      · rw [if_pos c2]
        refine List.pairwise_cons.2 ⟨fun z hz => ?_, h2⟩
        have := h1 z hz; show k < z.1; omega
      · rw [if_neg c2]
        refine List.pairwise_cons.2 ⟨fun z hz => ?_, ih h2⟩
        rcases (put_mem h2 k v z).1 hz with rfl | ⟨_, e'⟩
        · show y.1 < k; omega
        · exact h1 z e'
omit [Inhabited Kd] in
theorem put_old {L : List It} {k : Nat} (v : Int) (h : ∃ u, (k, u) ∈ L) (ha : Asc L) : (put L k v).length = L.length := by
  induction L with
  | nil => obtain ⟨u, hu⟩ := h; simp at hu
  | cons y r ih =>
    obtain ⟨h1, h2⟩ := List.pairwise_cons.1 ha
    obtain ⟨u, hu⟩ := h
    unfold put
    rcases List.mem_cons.1 hu with rfl | hu'
    · rw [if_neg (by omega), if_pos rfl]; rfl
    · have := h1 _ hu'
      have h3 : y.1 < k := this
      rw [if_neg (by omega), if_neg (by omega), List.length_cons, List.length_cons, ih ⟨u, hu'⟩ h2]
omit [Inhabited Kd] in
theorem put_new {L : List It} {k : Nat} (v : Int) (h : ∀ u, (k, u) ∉ L) : (put L k v).length = L.length + 1 := by
  induction L with
  | nil => rfl
  | cons y r ih =>
    unfold put
    by_cases c1 : k < y.1
    · rw [if_pos c1]; rfl
    · rw [if_neg c1, if_neg (fun e => h y.2 (by rw [e]; exact List.mem_cons_self ..)), List.length_cons, ih (fun u hu => h u (List.mem_cons_of_mem _ hu)), List.length_cons]
/-- the shape holds the entries -/
def Hol (S : Sh) (L : List It) : Prop := ∀ k v, (k, v) ∈ L ↔ S.K k ∧ S.ent k = v
/-- a trie with the entries L; O: its blocks -/
def Tr (w : World) (tb : Nat) (O : Nat → Prop) (L : List It) (m : Nat) : Prop :=
  ∃ S lb root md mn mx, S.m = m ∧ Trie w S tb lb root L.length md mn mx ∧ Hol S L ∧ Asc L ∧ (∀ k, Own S tb md k ∨ k = lb → O k) ∧ (∀ k, O k → 2 ≤ k ∧ k < w.heap.size) ∧ ∀ y ∈ L, okK w y.1 y.2 ∧ ∀ b, blkK y.2 b → ¬ O b
theorem Tr.keep {w w' : World} {tb m : Nat} {O T : Nat → Prop} {L : List It} (h : Tr w tb O L m) (ho : Only T w w') (hn : ∀ k, O k → ¬ T k) (hb : ∀ y ∈ L, ∀ b, blkK y.2 b → ¬ T b) : Tr w' tb O L m := by
  obtain ⟨S, lb, root, md, mn, mx, h1, h2, h3, h4, h5, h6, h7⟩ := h
  exact ⟨S, lb, root, md, mn, mx, h1, ⟨h2.ok, h2.mem.keep ho (fun d p b hd hb => hn _ (h5 _ (.inl (.inr (.inr ⟨d, p, hd, hb⟩))))), h2.lay.keep ho (hn _ (h5 _ (.inr rfl))) (fun i hi => hn _ (h5 _ (.inl (.inr (.inl ⟨i, hi, rfl⟩))))), h2.mdi, h2.obj.keep ho (hn _ (h5 _ (.inl (.inl rfl)))), h2.root, h2.ends⟩, h3, h4, h5, fun k hk => ⟨(h6 k hk).1, Nat.lt_of_lt_of_le (h6 k hk).2 ho.size⟩, fun y hy => ⟨(h7 y hy).1.keep ho (hb y hy), (h7 y hy).2⟩⟩
theorem Tr.keep2 {w w' : World} {tb m : Nat} {O T : Nat → Prop} {L : List It} (h : Tr w tb O L m) (ho : Only T w w') (hn : ∀ k, O k → ¬ T k) (hk : ∀ y ∈ L, okK w' y.1 y.2) : Tr w' tb O L m := by
  obtain ⟨S, lb, root, md, mn, mx, h1, h2, h3, h4, h5, h6, h7⟩ := h
  exact ⟨S, lb, root, md, mn, mx, h1, ⟨h2.ok, h2.mem.keep ho (fun d p b hd hb => hn _ (h5 _ (.inl (.inr (.inr ⟨d, p, hd, hb⟩))))), h2.lay.keep ho (hn _ (h5 _ (.inr rfl))) (fun i hi => hn _ (h5 _ (.inl (.inr (.inl ⟨i, hi, rfl⟩))))), h2.mdi, h2.obj.keep ho (hn _ (h5 _ (.inl (.inl rfl)))), h2.root, h2.ends⟩, h3, h4, h5, fun k hk => ⟨(h6 k hk).1, Nat.lt_of_lt_of_le (h6 k hk).2 ho.size⟩, fun y hy => ⟨hk y hy, (h7 y hy).2⟩⟩
theorem Tr.lt2 {w : World} {tb m : Nat} {O : Nat → Prop} {L : List It} (h : Tr w tb O L m) {k : Nat} (hk : O k) : 2 ≤ k ∧ k < w.heap.size := by
  obtain ⟨S, lb, root, md, mn, mx, h1, h2, h3, h4, h5, h6, _⟩ := h
  exact h6 k hk
theorem Tr.still {w w' : World} {tb m : Nat} {O : Nat → Prop} {L : List It} (h : Tr w tb O L m) (ho : Same w w') : Tr w' tb O L m := h.keep ho (fun _ _ h => h) (fun _ _ _ _ h => h)
/-- all blocks of a trie are there -/
theorem Trie.lt {w : World} {S : Sh} {tb lb root num : Nat} {md : Nat → Nat} {mn mx : Option Nat} (h : Trie w S tb lb root num md mn mx) {k : Nat} (hk : Own S tb md k ∨ k = lb) : k < w.heap.size := by
  rcases hk with (rfl | ⟨i, hi, rfl⟩ | ⟨d, p, hd, hb⟩) | rfl
  · exact lt_of_heap h.obj.obj
  · obtain ⟨f, h1, _⟩ := h.lay.maps i hi
    exact h1.lt
  · exact (h.mem d p k hd hb).lt
  · exact h.lay.lb
/-- what is said of an insert -/
def PutP (w : World) (tb : Nat) (O : Nat → Prop) (L : List It) (m : Nat) (e : Ending) (w' : World) : Prop :=
  e = .returned (.tuple #[]) ∧ ∃ O', Tr w' tb O' L m ∧ Only O w w' ∧ ∀ k, O' k → O k ∨ w.heap.size ≤ k
theorem insertC (w : World) (tb : Nat) (O : Nat → Prop) (L : List It) (m x : Nat) (v : Int) (h : Tr w tb O L m) (hT : Tabs w) (hnum : L.length < 1000000) (hx : x < 2 ^ m) (hKO : okK w x v ∧ ∀ b, blkK v b → ¬ O b) :
    Calls Tryd.prog 49 #[op (some tb), item x v] w (PutP w tb O (put L x v) m) := by
  obtain ⟨S, lb, root, md, mn, mx, rfl, h2, h3, h4, h5, h6, h7⟩ := h
  have hKS : KeysOk S tb md w x v := fun wx hwx k u hku => by
    rcases hku with ⟨rfl, rfl⟩ | ⟨hk, rfl⟩
    · exact hKO.1.keep hwx (fun b hb ho => hKO.2 b hb (h5 b (.inl ho)))
    · have h8 := h7 (k, S.ent k) ((h3 k _).2 ⟨hk, rfl⟩)
      exact h8.1.keep hwx (fun b hb ho => h8.2 b hb (h5 b (.inl ho)))
  by_cases hK : S.K x
  · refine (insertOld w S tb lb root L.length md mn mx x v h2 hK hKO.1).mono ?_
    rintro e w' ⟨rfl, g1, g2⟩
    refine ⟨rfl, O, ⟨S.ren x v, lb, root, md, mn, mx, rfl, ?_, fun k u => ?_, put_asc h4 x v, h5, fun k hk => ⟨(h6 k hk).1, Nat.lt_of_lt_of_le (h6 k hk).2 g2.size⟩, fun y hy => ?_⟩, g2.mono (fun k _ hk => h5 k (.inl hk)), fun k hk => .inl hk⟩
    · rw [put_old v ⟨S.ent x, (h3 x _).2 ⟨hK, rfl⟩⟩ h4]; exact g1
    · rw [put_mem h4]
      show _ ↔ S.K k ∧ (if k = x then v else S.ent k) = u
      by_cases e : k = x
      · subst e
        rw [if_pos rfl]
        exact ⟨fun h => by
          rcases h with h | ⟨h, _⟩
          · cases h; exact ⟨hK, rfl⟩
          · exact absurd rfl h, fun h => .inl (by rw [h.2])⟩
      · rw [if_neg e, ← h3]
        exact ⟨fun h => by
          rcases h with h | ⟨_, h⟩
          · cases h; exact absurd rfl e
          · exact h, fun h => .inr ⟨e, h⟩⟩
    · have key : okK w y.1 y.2 ∧ ∀ b, blkK y.2 b → ¬ O b := by
        rcases (put_mem h4 x v y).1 hy with rfl | ⟨_, hy⟩
        · exact hKO
        · exact h7 y hy
      exact ⟨key.1.keep g2 (fun b hb ho => key.2 b hb (h5 b (.inl ho))), key.2⟩
  · refine (insertNew w S tb lb root L.length md mn mx x v h2 hT (fun k hk h => by have := (h6 k (h5 k (.inl h))).1; omega) hnum hK hx hKS).mono ?_
    rintro e w' ⟨rfl, D, f, nb, mn', mx', gd, g1, g2, g3⟩
    refine ⟨rfl, fun k => (O k ∨ w.heap.size ≤ k) ∧ k < w'.heap.size, ⟨(S.grow D x v nb S.m).w f, lb, root, md, mn', mx', rfl, ?_, fun k u => ?_, put_asc h4 x v, fun k hk => ⟨?_, Trie.lt g1 hk⟩, fun k hk => ⟨?_, hk.2⟩, fun y hy => ?_⟩, g2.mono (fun k _ hk => h5 k (.inl hk)), fun k hk => hk.1⟩
    · rw [put_new v (fun u hu => hK ((h3 x u).1 hu).1)]; exact g1
    · rw [put_mem h4, grow_K gd]
      show _ ↔ (S.K k ∨ k = x) ∧ (if k = x then v else S.ent k) = u
      by_cases e : k = x
      · subst e
        rw [if_pos rfl]
        exact ⟨fun h => by
          rcases h with h | ⟨h, _⟩
          · cases h; exact ⟨.inr rfl, rfl⟩
          · exact absurd rfl h, fun h => .inl (by rw [h.2])⟩
      · rw [if_neg e, h3]
        exact ⟨fun h => by
          rcases h with h | ⟨_, h⟩
          · cases h; exact absurd rfl e
          · exact ⟨.inl h.1, h.2⟩, fun h => .inr ⟨e, h.1.resolve_right e, h.2⟩⟩
    · rcases hk with (rfl | ⟨i, hi, rfl⟩ | ⟨d, p, hd, hb⟩) | rfl
      · exact .inl (h5 _ (.inl (.inl rfl)))
      · exact .inl (h5 _ (.inl (.inr (.inl ⟨i, hi, rfl⟩))))
      · exact (g3 d p k hd hb).imp (fun h => h5 _ (.inl h)) id
      · exact .inl (h5 _ (.inr rfl))
    · rcases hk.1 with h | h
      · exact (h6 k h).1
      · have h9 := (h6 tb (h5 tb (.inl (.inl rfl)))); omega
    · have key : okK w y.1 y.2 ∧ ∀ b, blkK y.2 b → ¬ O b := by
        rcases (put_mem h4 x v y).1 hy with rfl | ⟨_, hy⟩
        · exact hKO
        · exact h7 y hy
      exact ⟨key.1.keep g2 (fun b hb ho => key.2 b hb (h5 b (.inl ho))), fun b hb ho => by
        rcases ho.1 with h | h
        · exact key.2 b hb h
        · have := key.1.lt hb; omega⟩
/-- an answer: an entry or nil -/
def ans : Option It → Value
  | none => .nilIface
  | some y => item y.1 y.2
def fnd (L : List It) (k : Nat) : Option It := L.find? (fun y => y.1 == k)
omit [Inhabited Kd] in
theorem fnd_some {S : Sh} {L : List It} (h : Hol S L) {k : Nat} (hk : S.K k) : fnd L k = some (k, S.ent k) := by
  have h1 := (h k (S.ent k)).2 ⟨hk, rfl⟩
  cases hf : fnd L k with
  | none =>
    have := List.find?_eq_none.1 hf _ h1
    simp at this
  | some y =>
    have h2 := List.find?_some hf
    have h3 := List.mem_of_find?_eq_some hf
    obtain ⟨a, b⟩ := y
    have h4 : a = k := by simpa using h2
    subst h4
    rw [((h a b).1 h3).2]
omit [Inhabited Kd] in
theorem fnd_none {S : Sh} {L : List It} (h : Hol S L) {k : Nat} (hk : ¬ S.K k) : fnd L k = none := by
  refine List.find?_eq_none.2 (fun y hy e => hk ?_)
  obtain ⟨a, b⟩ := y
  have h4 : a = k := by simpa using e
  subst h4
  exact ((h a b).1 hy).1
omit [Inhabited Kd] in
theorem head_of {L : List It} (h : Asc L) {y : It} (hy : y ∈ L) (hm : ∀ z ∈ L, y.1 ≤ z.1) : L.head? = some y := by
  cases L with
  | nil => simp at hy
  | cons z r =>
    have h1 := (List.pairwise_cons.1 h).1
    rcases List.mem_cons.1 hy with rfl | h2
    · rfl
    · have := h1 _ h2
      have := hm z (List.mem_cons_self ..)
      omega
omit [Inhabited Kd] in
theorem last_of {L : List It} (h : Asc L) {y : It} (hy : y ∈ L) (hm : ∀ z ∈ L, z.1 ≤ y.1) : L.getLast? = some y := by
  have h1 : L.reverse.head? = some y := by
    have h2 : L.reverse.Pairwise fun a b => b.1 < a.1 := List.pairwise_reverse.2 h
    cases hr : L.reverse with
    | nil => rw [List.reverse_eq_nil_iff] at hr; subst hr; simp at hy
    | cons z r =>
      rw [hr] at h2
      have h3 : y ∈ z :: r := by rw [← hr]; exact List.mem_reverse.2 hy
      have h4 : z ∈ L := List.mem_reverse.1 (by rw [hr]; exact List.mem_cons_self ..)
      rcases List.mem_cons.1 h3 with rfl | h5
      · rfl
      · have := (List.pairwise_cons.1 h2).1 _ h5
        have := hm z h4
        omega
  rw [List.head?_reverse] at h1
  exact h1
omit [Inhabited Kd] in
theorem Hol.nil {S : Sh} {L : List It} (h : Hol S L) (h0 : ∀ k, ¬ S.K k) : L = [] := by
  cases L with
  | nil => rfl
  | cons y r => exact absurd ((h y.1 y.2).1 (List.mem_cons_self ..)).1 (h0 _)
/-- said of what looks only -/
def SayP (v : Value) (w : World) (e : Ending) (w' : World) : Prop := e = .returned v ∧ Same w w'
set_option maxRecDepth 100000 in
theorem lenC (w : World) (tb : Nat) (O : Nat → Prop) (L : List It) (m : Nat) (h : Tr w tb O L m) : Calls Tryd.prog 36 #[op (some tb)] w (SayP (.int .u64 (L.length : Int)) w) := by
  obtain ⟨S, lb, root, md, mn, mx, rfl, h2, h3, h4, h5, h6, h7⟩ := h
  have t2 : w.cell? ⟨tb, 2, none⟩ = some (.int .u64 (L.length : Int)) := block_cell h2.obj.obj rfl
  have lt := lt_of_heap h2.obj.obj
  clear h2 h3 h4 h5 h6 h7
  show Calls Tryd.prog 36 #[pb tb] w _
  go_enter Tryd.func36, Tryd.ntmps36
  go_wp2_with fail
  go_ret
  exact ⟨rfl, Only.refl _ _⟩
set_option maxRecDepth 100000 in
theorem minC (w : World) (tb : Nat) (O : Nat → Prop) (L : List It) (m : Nat) (h : Tr w tb O L m) : Calls Tryd.prog 37 #[op (some tb)] w (SayP (ans L.head?) w) := by
  obtain ⟨S, lb, root, md, mn, mx, rfl, h2, h3, h4, h5, h6, h7⟩ := h
  have lt := lt_of_heap h2.obj.obj
  rcases h2.ends with ⟨h0, rfl, rfl⟩ | ⟨k1, k2, g1, g2, g3, g4, g5⟩
  · have t5 : w.cell? ⟨tb, 5, none⟩ = some (.pointer none) := block_cell h2.obj.obj rfl
    rw [h3.nil h0]
    clear h2 h3 h4 h5 h6 h7 h0
    show Calls Tryd.prog 37 #[pb tb] w _
    go_enter Tryd.func37, Tryd.ntmps37
    go_wp2_with fail
    go_ret
    exact ⟨rfl, Only.refl _ _⟩
  · obtain ⟨b1, hb1⟩ := g1.get
    rw [hb1] at g4
    subst g4
    have t5 : w.cell? ⟨tb, 5, none⟩ = some (pb b1) := block_cell h2.obj.obj rfl
    have n1 := (h2.mem.leaf hb1).e
    have l1 := (h2.mem.leaf hb1).lt
    rw [head_of h4 ((h3 k1 _).2 ⟨g1, rfl⟩) (fun z hz => (g3 z.1 ((h3 z.1 z.2).1 hz).1).1)]
    clear h2 h3 h4 h5 h6 h7 g1 g2 g3 g5 hb1
    show Calls Tryd.prog 37 #[pb tb] w _
    go_enter Tryd.func37, Tryd.ntmps37
    go_wp2_with fail
    go_ret
    exact ⟨rfl, Only.refl _ _⟩
set_option maxRecDepth 100000 in
theorem maxC (w : World) (tb : Nat) (O : Nat → Prop) (L : List It) (m : Nat) (h : Tr w tb O L m) : Calls Tryd.prog 38 #[op (some tb)] w (SayP (ans L.getLast?) w) := by
  obtain ⟨S, lb, root, md, mn, mx, rfl, h2, h3, h4, h5, h6, h7⟩ := h
  have lt := lt_of_heap h2.obj.obj
  rcases h2.ends with ⟨h0, rfl, rfl⟩ | ⟨k1, k2, g1, g2, g3, g4, g5⟩
  · have t5 : w.cell? ⟨tb, 6, none⟩ = some (.pointer none) := block_cell h2.obj.obj rfl
    rw [h3.nil h0]
    clear h2 h3 h4 h5 h6 h7 h0
    show Calls Tryd.prog 38 #[pb tb] w _
    go_enter Tryd.func38, Tryd.ntmps38
    go_wp2_with fail
    go_ret
    exact ⟨rfl, Only.refl _ _⟩
  · obtain ⟨b1, hb1⟩ := g2.get
    rw [hb1] at g5
    subst g5
    have t5 : w.cell? ⟨tb, 6, none⟩ = some (pb b1) := block_cell h2.obj.obj rfl
    have n1 := (h2.mem.leaf hb1).e
    have l1 := (h2.mem.leaf hb1).lt
    rw [last_of h4 ((h3 k2 _).2 ⟨g2, rfl⟩) (fun z hz => (g3 z.1 ((h3 z.1 z.2).1 hz).1).2)]
    clear h2 h3 h4 h5 h6 h7 g1 g2 g3 g4 hb1
    show Calls Tryd.prog 38 #[pb tb] w _
    go_enter Tryd.func38, Tryd.ntmps38
    go_wp2_with fail
    go_ret
    exact ⟨rfl, Only.refl _ _⟩
end Go.Proofs.YtcjifjfcjimefaaDoor.xf

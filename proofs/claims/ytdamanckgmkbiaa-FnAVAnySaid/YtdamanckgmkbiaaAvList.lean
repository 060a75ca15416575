/-
  AVL trees as lists of entries with different keys.
-/
import Derived.Test.YtdamanckgmkbiaaAvDown
namespace Go.Proofs.Ytdamanckgmkbiaa.av
open Go.RowKit Go.Proofs.Ytdamanckgmkbiaa.base Go.Proofs.Ytdamanckgmkbiaa.heap Go.Proofs.Ytdamanckgmkbiaa.rows
open Tre
set_option linter.unusedVariables false
def findL (L : List (Int × Int)) (x : Int) : Option Int := (L.find? (fun y => y.1 == x)).map Prod.snd
def putL (L : List (Int × Int)) (x u : Int) : List (Int × Int) := L.filter (fun y => y.1 != x) ++ [(x, u)]
def putAll (L : List (Int × Int)) : List (Int × Int) → List (Int × Int)
  | [] => L
  | e :: E => putAll (putL L e.1 e.2) E
/-- what an insert of entries says, one by one -/
def saidPut (L : List (Int × Int)) : List (Int × Int) → List (Int × Option Int)
  | [] => []
  | e :: E => (e.1, findL L e.1) :: saidPut (putL L e.1 e.2) E
def saidGet (L E : List (Int × Int)) : List (Int × Option Int) := E.map fun e => (e.1, findL L e.1)
abbrev fnd (y : Int × Option Int) : Value := found y.1 y.2
abbrev ente (y : Int × Int) : Value := ent y.1 y.2
theorem putAll_snoc (L : List (Int × Int)) (E : List (Int × Int)) (e : Int × Int) : putAll L (E ++ [e]) = putL (putAll L E) e.1 e.2 := by
  induction E generalizing L with
  | nil => rfl
  | cons a E ih => exact ih _
theorem saidPut_snoc (L : List (Int × Int)) (E : List (Int × Int)) (e : Int × Int) : saidPut L (E ++ [e]) = saidPut L E ++ [(e.1, findL (putAll L E) e.1)] := by
  induction E generalizing L with
  | nil => rfl
  | cons a E ih => show _ :: saidPut _ (E ++ [e]) = _ :: (saidPut _ E ++ _); rw [ih]; rfl
theorem saidPut_len (L : List (Int × Int)) (E : List (Int × Int)) : (saidPut L E).length = E.length := by
  induction E generalizing L with
  | nil => rfl
  | cons a E ih => show (saidPut _ E).length + 1 = _; rw [ih]; rfl
theorem putL_len (L : List (Int × Int)) (x u : Int) : (putL L x u).length ≤ L.length + 1 := by
  unfold putL
  rw [List.length_append]
  have := List.length_filter_le (fun y : Int × Int => y.1 != x) L
  simp
  exact this
theorem putAll_len (L : List (Int × Int)) (E : List (Int × Int)) : (putAll L E).length ≤ L.length + E.length := by
  induction E generalizing L with
  | nil => exact Nat.le_refl _
  | cons a E ih =>
    have h1 := ih (putL L a.1 a.2)
    have h2 := putL_len L a.1 a.2
    show (putAll (putL L a.1 a.2) E).length ≤ L.length + (E.length + 1)
    omega
/-- the keys are different -/
def Dif (L : List (Int × Int)) : Prop := (L.map Prod.fst).Nodup
theorem dif_pair {L : List (Int × Int)} : Dif L ↔ L.Pairwise fun a b => a.1 ≠ b.1 := by
  unfold Dif
  rw [List.nodup_iff_pairwise_ne, List.pairwise_map]
theorem dif_eq {L : List (Int × Int)} (h : Dif L) {a b : Int × Int} (ha : a ∈ L) (hb : b ∈ L) (e : a.1 = b.1) : a = b := by
  rw [dif_pair] at h
  induction L with
  | nil => cases ha
  | cons c L ih =>
    obtain ⟨h1, h2⟩ := List.pairwise_cons.1 h
    rcases List.mem_cons.1 ha with ha' | ha'
    · rcases List.mem_cons.1 hb with hb' | hb'
      · rw [ha', hb']
      · exact absurd (by rw [← ha']; exact e) (h1 b hb')
    · rcases List.mem_cons.1 hb with hb' | hb'
      · exact absurd (by rw [← hb']; exact e.symm) (h1 a ha')
      · exact ih h2 ha' hb'
theorem Dif.put {L : List (Int × Int)} (h : Dif L) (x u : Int) : Dif (putL L x u) := by
  rw [dif_pair] at h ⊢
  refine List.pairwise_append.2 ⟨h.filter _, List.pairwise_singleton _ _, fun a ha b hb => ?_⟩
  rw [List.mem_singleton] at hb
  subst hb
  have := (List.mem_filter.1 ha).2
  simpa using this
theorem find_mem {L : List (Int × Int)} (h : Dif L) {x u : Int} : findL L x = some u ↔ (x, u) ∈ L := by
  unfold findL
  constructor
  · intro e
    rw [Option.map_eq_some_iff] at e
    obtain ⟨y, hy, e⟩ := e
    have h1 := List.mem_of_find?_eq_some hy
    have h2 := List.find?_some hy
    obtain ⟨a, b⟩ := y
    have h3 : a = x := by simpa using h2
    have h4 : b = u := e
    rw [← h3, ← h4]
    exact h1
  · intro hm
    have hs : (L.find? (fun y => y.1 == x)).isSome := List.find?_isSome.2 ⟨_, hm, by simp⟩
    obtain ⟨y, hy⟩ := Option.isSome_iff_exists.1 hs
    rw [hy]
    have h1 := List.mem_of_find?_eq_some hy
    have h2 : y.1 = x := by simpa using List.find?_some hy
    have h3 : y = (x, u) := by
      exact dif_eq h h1 hm h2
    rw [h3]
    rfl
/-- a tree holds a list's entries -/
def Rep (T : Tre) (L : List (Int × Int)) : Prop := T.Ord ∧ Dif L ∧ ∀ y, y ∈ T.toL ↔ y ∈ L
theorem Rep.look {T : Tre} {L : List (Int × Int)} (h : Rep T L) (x : Int) : T.look x = findL L x := by
  obtain ⟨h1, h2, h3⟩ := h
  cases hf : findL L x with
  | some u => exact (look_mem h1).2 ((h3 _).2 ((find_mem h2).1 hf))
  | none =>
    cases hl : T.look x with
    | none => rfl
    | some u =>
      rw [(find_mem h2).2 ((h3 _).1 ((look_mem h1).1 hl))] at hf
      cases hf
theorem Rep.size {T : Tre} {L : List (Int × Int)} (h : Rep T L) : T.size = L.length := by
  obtain ⟨h1, h2, h3⟩ := h
  rw [size_len]
  have n1 : T.toL.Nodup := by
    have h : T.toL.Pairwise fun a b => a.1 < b.1 := h1
    exact h.imp (fun h e => by rw [e] at h; exact absurd h (Int.lt_irrefl _))
  have n2 : L.Nodup := (dif_pair.1 h2).imp (fun h e => h (by rw [e]))
  exact ((List.perm_ext_iff_of_nodup n1 n2).2 h3).length_eq
theorem Rep.put {T T' : Tre} {L : List (Int × Int)} {x u : Int} (h : Rep T L) (ho : T'.Ord) (hu : ∀ y, y ∈ T'.toL ↔ y = (x, u) ∨ (y.1 ≠ x ∧ y ∈ T.toL)) : Rep T' (putL L x u) := by
  obtain ⟨h1, h2, h3⟩ := h
  refine ⟨ho, h2.put x u, fun y => ?_⟩
  rw [hu, h3]
  unfold putL
  rw [List.mem_append, List.mem_filter, List.mem_singleton]
  constructor
  · rintro (h | ⟨h, h'⟩)
    · exact .inr h
    · exact .inl ⟨h', by simpa using h⟩
  · rintro (⟨h, h'⟩ | h)
    · exact .inr ⟨by simpa using h', h⟩
    · exact .inl h
/-- a tree in memory, of new blocks -/
def Tn (B : Nat) (w : World) (g : Nat) (L : List (Int × Int)) : Prop := ∃ T, Im w g T ∧ T.Bal ∧ Rep T L ∧ B ≤ g ∧ ∀ y, T.ptr = some y → B ≤ y
theorem Tn.low {B w g L} (h : Tn B w g L) : Tn 0 w g L := by
  obtain ⟨T, h1, h2, h3, h4, h5⟩ := h
  exact ⟨T, h1, h2, h3, Nat.zero_le _, fun _ _ => Nat.zero_le _⟩
theorem Im.still {w w' : World} {g : Nat} {T : Tre} (h : Im w g T) (hs : Same w w') : Im w' g T := by
  obtain ⟨d, c0, c1, h1, h2, h3⟩ := h
  exact ⟨d, c0, c1, heap_still hs h1, h2.keep hs (fun _ _ e => e), h3⟩
theorem Tn.still {B w w' g L} (h : Tn B w g L) (hs : Same w w') : Tn B w' g L := by
  obtain ⟨T, h1, h⟩ := h
  exact ⟨T, h1.still hs, h⟩
theorem Tn.dif {B w g L} (h : Tn B w g L) : Dif L := by
  obtain ⟨T, h1, h2, h3, _⟩ := h
  exact h3.2.1
theorem Tn.lt {B w g L} (h : Tn B w g L) : g < w.heap.size := by
  obtain ⟨T, ⟨d, c0, c1, h1, _⟩, _⟩ := h
  exact lt_of_heap h1
theorem get1 {B w g L} (h : Tn B w g L) (x u : Int) : Calls Try.prog 31 #[.pointer (at0 g), ent x u] w (SayP (found x (findL L x)) w) := by
  obtain ⟨T, h1, h2, h3, h4, h5⟩ := h
  rw [← h3.look]
  exact getC h1 x u
/-- a node's block, or a tree's -/
def Ty (w : World) (y : Nat) : Prop := ∃ cs t, w.heap[y]? = some (.cells cs t (0, 0)) ∧ (t = 80 ∨ t = 82)
theorem InM.ty {w : World} : ∀ {t : Tre}, InM w t → ∀ y, t.blk y → Ty w y
  | .nil, _, _, h => h.elim
  | .nd p b l k v r, h, y, hy => by
    obtain ⟨h1, h2, h3, h4, h5⟩ := h
    rcases hy with rfl | hy | hy
    · exact ⟨_, _, h1, .inl rfl⟩
    · exact InM.ty h2 y hy
    · exact InM.ty h3 y hy
theorem Im.keep {w w' : World} {S : Nat → Prop} {g : Nat} {T : Tre} (h : Im w g T) (hs : Only S w w') (hn : ∀ y, Ty w y → ¬ S y) : Im w' g T := by
  obtain ⟨d, c0, c1, h1, h2, h3⟩ := h
  exact ⟨d, c0, c1, hs.obj h1 (hn g ⟨_, _, h1, .inr rfl⟩), h2.keep hs (fun y hy => hn y (h2.ty y hy)), h3⟩
theorem Tn.keep {B w w' g L} {S : Nat → Prop} (h : Tn B w g L) (hs : Only S w w') (hn : ∀ y, Ty w y → ¬ S y) : Tn B w' g L := by
  obtain ⟨T, h1, h⟩ := h
  exact ⟨T, h1.keep hs hn, h⟩
/-- said of insert -/
def PutP (B g : Nat) (L : List (Int × Int)) (x u : Int) (w : World) (e : Ending) (w' : World) : Prop := e = .returned (found x (findL L x)) ∧ Tn B w' g (putL L x u) ∧ Only (fun y => B ≤ y ∧ Ty w y) w w'
theorem ins1 {B w g L} (h : Tn B w g L) (hB : B ≤ w.heap.size) (hl : L.length < 4611686018427387904) (x u : Int) : Calls Try.prog 34 #[.pointer (at0 g), ent x u] w (PutP B g L x u w) := by
  obtain ⟨T, ⟨d, c0, c1, h1, h2, h3⟩, h4, h5, h6, h7⟩ := h
  have hs := h5.size
  cases T with
  | nil =>
    have hL : L = [] := List.length_eq_zero_iff.1 hs.symm
    refine (insNil (n := 0) h1 (by decide) x u).mono ?_
    rintro e w' ⟨rfl, q, hq, hob, hnd, hon⟩
    have ho : (Tre.nd q 0 .nil x u .nil).Ord := List.pairwise_singleton _ _
    have hg : g < w.heap.size := lt_of_heap h1
    refine ⟨by rw [hL]; rfl, ⟨.nd q 0 .nil x u .nil, ⟨d, c0, c1, hob, ⟨hnd, trivial, trivial, fun e => e, fun e => e⟩, ?_⟩, ⟨rfl, by decide, by decide, trivial, trivial⟩, h5.put ho (fun y => ?_), h6, fun y hy => ?_⟩, hon.mono (fun y _ e => ⟨e ▸ h6, e ▸ ⟨_, _, h1, .inr rfl⟩⟩)⟩
    · rintro (e | e | e)
      · omega
      · exact e
      · exact e
    · show y ∈ [(x, u)] ↔ y = (x, u) ∨ (y.1 ≠ x ∧ y ∈ [])
      simp
    · have e : q = y := Option.some.inj hy
      omega
  | nd p0 b l k v r =>
    refine (insC h1 h2 h3 h4 h5.1 (by rw [hs]; exact hl) x u).mono ?_
    rintro e w' ⟨rfl, T', d', c0', c1', g1, g2, g3, g4, g5, g6, g7, g8⟩
    have hp : B ≤ p0 := h7 p0 rfl
    refine ⟨by rw [h5.look], ⟨T', ⟨d', c0', c1', g1, g2, g3⟩, g4, h5.put g5 g6, h6, fun y hy => ?_⟩, g7.mono (fun y _ e => ?_)⟩
    · rcases g8 y hy with rfl | e
      · exact hp
      · omega
    · rcases e with rfl | rfl
      · exact ⟨h6, _, _, h1, .inr rfl⟩
      · exact ⟨hp, h2.ty _ (.inl rfl)⟩
end Go.Proofs.Ytdamanckgmkbiaa.av

/-
  Hash tables with linear probing, as lists of places: what a search finds; a place filled; a place emptied, and its followers put in again.
-/
import Derived.Lib.Hide
namespace Go.Proofs.Ytpccodjmjgfloaa.fi
set_option linter.unusedVariables false

/-- a packet: its key, its value, its block -/
structure Pk where
  k : Nat
  v : Nat
  b : Nat
abbrev Tb := List (Option Pk)
def slot (T : Tb) (i : Nat) : Option Pk := T.getD i none
theorem slot_set (T : Tb) (i j : Nat) (x : Option Pk) (hi : i < T.length) : slot (T.set i x) j = if i = j then x else slot T j := by
  unfold slot
  rw [List.getD_eq_getElem?_getD, List.getD_eq_getElem?_getD, List.getElem?_set]
  by_cases h : i = j
  · subst h; simp [hi]
  · rw [if_neg h, if_neg h]
theorem slot_lt {T : Tb} {i : Nat} {p : Pk} (h : slot T i = some p) : i < T.length := by
  unfold slot at h
  rw [List.getD_eq_getElem?_getD] at h
  rcases Nat.lt_or_ge i T.length with h' | h'
  · exact h'
  · rw [List.getElem?_eq_none h'] at h; cases h
/-- how many places are taken -/
def occ (T : Tb) : Nat := T.countP (·.isSome)
theorem occ_set : ∀ (T : Tb) (i : Nat) (x : Option Pk), i < T.length → occ (T.set i x) + (slot T i).isSome.toNat = occ T + x.isSome.toNat
  | [], i, x, h => by simp at h
  | y :: T, 0, x, h => by
    show occ (x :: T) + y.isSome.toNat = occ (y :: T) + x.isSome.toNat
    unfold occ
    rw [List.countP_cons, List.countP_cons]
    cases x <;> cases y <;> simp <;> omega
  | y :: T, i + 1, x, h => by
    have ih := occ_set T i x (by simpa using h)
    show occ (y :: T.set i x) + (slot T i).isSome.toNat = occ (y :: T) + x.isSome.toNat
    unfold occ at *
    rw [List.countP_cons, List.countP_cons]
    omega
theorem room_of_occ : ∀ (T : Tb), occ T < T.length → ∃ e, e < T.length ∧ slot T e = none
  | [], h => by simp [occ] at h
  | none :: T, h => ⟨0, by simp, rfl⟩
  | some p :: T, h => by
    unfold occ at h
    rw [List.countP_cons] at h
    obtain ⟨e, he, hs⟩ := room_of_occ T (by unfold occ; simp at h; omega)
    exact ⟨e + 1, by simpa using he, hs⟩

section
variable {H : Nat → Nat} {L : Nat}
/-- the place of a packet can be reached from its key's own place over places that are taken -/
def Reach (H : Nat → Nat) (L : Nat) (T : Tb) (j : Nat) (p : Pk) : Prop := ∃ d, d < L ∧ (H p.k + d) % L = j ∧ ∀ d', d' < d → slot T ((H p.k + d') % L) ≠ none
structure Ok (H : Nat → Nat) (L : Nat) (T : Tb) : Prop where
  len : T.length = L
  reach : ∀ j p, slot T j = some p → Reach H L T j p
  inj : ∀ i j p q, slot T i = some p → slot T j = some q → p.k = q.k → i = j
  room : occ T < L
/-- where a search for a key ends -/
def Found (H : Nat → Nat) (L : Nat) (T : Tb) (key i : Nat) : Prop :=
  ∃ d, d < L ∧ i = (H key + d) % L ∧ (∀ d', d' < d → ∃ p, slot T ((H key + d') % L) = some p ∧ p.k ≠ key) ∧ (slot T i = none ∨ ∃ p, slot T i = some p ∧ p.k = key)
theorem dist (h e : Nat) (he : e < L) : ∃ d, d < L ∧ (h + d) % L = e := by
  refine ⟨(e + L - h % L) % L, Nat.mod_lt _ (by omega), ?_⟩
  have h1 : h % L < L := Nat.mod_lt _ (by omega)
  have h3 : (h + (e + L - h % L)) % L = (h % L + (e + L - h % L)) % L := (Nat.mod_add_mod h L _).symm
  have h4 : (h + (e + L - h % L) % L) % L = (h + (e + L - h % L)) % L := Nat.add_mod_mod h _ L
  rw [h4, h3, show h % L + (e + L - h % L) = e + L by omega, Nat.add_mod_right]
  exact Nat.mod_eq_of_lt he
theorem shift {a b s : Nat} (h : a % L = b % L) : (a + s) % L = (b + s) % L := by rw [Nat.add_mod, h, ← Nat.add_mod]
theorem apart {i s t : Nat} (hs : s < L) (ht : t < L) (h : (i + s) % L = (i + t) % L) : s = t := by
  have key : ∀ s t, s < L → t < L → s ≤ t → (i + s) % L = (i + t) % L → s = t := by
    intro s t hs ht hst h
    have h1 : ((i + s) + (t - s)) % L = (i + s) % L := by rw [show (i + s) + (t - s) = i + t by omega]; exact h.symm
    have h2 : (t - s) % L = t - s := Nat.mod_eq_of_lt (by omega)
    have h3 := Nat.div_add_mod (i + s) L
    have h4 := Nat.div_add_mod ((i + s) + (t - s)) L
    rw [h1] at h4
    have h5 : L * ((i + s + (t - s)) / L) = L * ((i + s) / L) + (t - s) := by omega
    have h6 : L ∣ (t - s) := (Nat.dvd_add_right (Nat.dvd_mul_right L ((i + s) / L))).1 (by rw [← h5]; exact Nat.dvd_mul_right _ _)
    have h7 := Nat.eq_zero_of_dvd_of_lt h6 (by omega)
    omega
  rcases Nat.le_total s t with hh | hh
  · exact key s t hs ht hh h
  · exact (key t s ht hs hh h.symm).symm

/-- a search that ends at a free place: the key is nowhere -/
theorem found_none {T : Tb} {key i : Nat} (hok : Ok H L T) (hf : Found H L T key i) (hn : slot T i = none) : ∀ j p, slot T j = some p → p.k ≠ key := by
  intro j p hj hk
  obtain ⟨d, hd, rfl, hb, _⟩ := hf
  obtain ⟨dj, hdj, he, hp⟩ := hok.reach j p hj
  rw [hk] at he hp
  rcases Nat.lt_trichotomy d dj with h | h | h
  · exact hp d h hn
  · subst h
    rw [he, hj] at hn
    cases hn
  · obtain ⟨q, hq, hqk⟩ := hb dj h
    rw [he, hj] at hq
    cases hq
    exact hqk hk

/-- what the table holds -/
def Has (T : Tb) (k v : Nat) : Prop := ∃ j p, slot T j = some p ∧ p.k = k ∧ p.v = v

theorem set_new {T : Tb} {p : Pk} {i : Nat} (hok : Ok H L T) (hf : Found H L T p.k i) (hn : slot T i = none) (hr : occ T + 1 < L) :
    Ok H L (T.set i (some p)) ∧ (∀ k v, Has (T.set i (some p)) k v ↔ Has T k v ∨ (k = p.k ∧ v = p.v)) ∧ occ (T.set i (some p)) = occ T + 1 := by
  have hno := found_none hok hf hn
  obtain ⟨d, hd, hi, hb, _⟩ := hf
  have hiL : i < T.length := by rw [hok.len, hi]; exact Nat.mod_lt _ (by omega)
  have hs : ∀ j, slot (T.set i (some p)) j = if i = j then some p else slot T j := fun j => slot_set T i j _ hiL
  have hocc : occ (T.set i (some p)) = occ T + 1 := by
    have := occ_set T i (some p) hiL
    rw [hn] at this
    simpa using this
  have hmono : ∀ j, slot T j ≠ none → slot (T.set i (some p)) j ≠ none := fun j hj => by
    rw [hs]; split
    · exact fun h => by cases h
    · exact hj
  refine ⟨⟨by rw [List.length_set, hok.len], fun j q hj => ?_, fun a b q r ha hb' hk => ?_, by omega⟩, fun k v => ?_, hocc⟩
  · rw [hs] at hj
    split at hj
    · cases hj
      rename_i hij
      subst hij
      exact ⟨d, hd, hi.symm, fun d' hd' => hmono _ (by obtain ⟨r, hr, _⟩ := hb d' hd'; rw [hr]; exact fun h => by cases h)⟩
    · obtain ⟨dj, h1, h2, h3⟩ := hok.reach j q hj
      exact ⟨dj, h1, h2, fun d' hd' => hmono _ (h3 d' hd')⟩
  · rw [hs] at ha hb'
    split at ha <;> split at hb'
    · omega
    · cases ha; exact absurd hk.symm (hno b r hb')
    · cases hb'; exact absurd hk (hno a q ha)
    · exact hok.inj a b q r ha hb' hk
  · constructor
    · rintro ⟨j, q, hj, h1, h2⟩
      rw [hs] at hj
      split at hj
      · cases hj; exact .inr ⟨h1.symm, h2.symm⟩
      · exact .inl ⟨j, q, hj, h1, h2⟩
    · rintro (⟨j, q, hj, h1, h2⟩ | ⟨h1, h2⟩)
      · refine ⟨j, q, ?_, h1, h2⟩
        rw [hs, if_neg (fun e => by rw [← e, hn] at hj; cases hj)]
        exact hj
      · exact ⟨i, p, by rw [hs, if_pos rfl], h1.symm, h2.symm⟩

theorem set_val {T : Tb} {p : Pk} {i v : Nat} (hok : Ok H L T) (hp : slot T i = some p) :
    Ok H L (T.set i (some ⟨p.k, v, p.b⟩)) ∧ (∀ k u, Has (T.set i (some ⟨p.k, v, p.b⟩)) k u ↔ (k ≠ p.k ∧ Has T k u) ∨ (k = p.k ∧ u = v)) ∧ occ (T.set i (some ⟨p.k, v, p.b⟩)) = occ T := by
  have hiL := slot_lt hp
  have hs : ∀ j, slot (T.set i (some ⟨p.k, v, p.b⟩)) j = if i = j then some ⟨p.k, v, p.b⟩ else slot T j := fun j => slot_set T i j _ hiL
  have hocc : occ (T.set i (some ⟨p.k, v, p.b⟩)) = occ T := by
    have := occ_set T i (some ⟨p.k, v, p.b⟩) hiL
    rw [hp] at this
    simpa using this
  have hmono : ∀ j, slot T j ≠ none → slot (T.set i (some ⟨p.k, v, p.b⟩)) j ≠ none := fun j hj => by
    rw [hs]; split
    · exact fun h => by cases h
    · exact hj
  have hkey : ∀ j q, slot (T.set i (some ⟨p.k, v, p.b⟩)) j = some q → ∃ r, slot T j = some r ∧ r.k = q.k := fun j q hj => by
    rw [hs] at hj
    split at hj
    · cases hj; rename_i h; subst h; exact ⟨p, hp, rfl⟩
    · exact ⟨q, hj, rfl⟩
  refine ⟨⟨by rw [List.length_set, hok.len], fun j q hj => ?_, fun a b q r ha hb hk => ?_, by rw [hocc]; exact hok.room⟩, fun k u => ?_, hocc⟩
  · obtain ⟨r, hr, hk⟩ := hkey j q hj
    obtain ⟨d, h1, h2, h3⟩ := hok.reach j r hr
    rw [hk] at h2 h3
    exact ⟨d, h1, h2, fun d' hd' => hmono _ (h3 d' hd')⟩
  · obtain ⟨q', h1, h2⟩ := hkey a q ha
    obtain ⟨r', h3, h4⟩ := hkey b r hb
    exact hok.inj a b q' r' h1 h3 (by rw [h2, h4, hk])
  · constructor
    · rintro ⟨j, q, hj, h1, h2⟩
      rw [hs] at hj
      split at hj
      · cases hj; exact .inr ⟨h1.symm, h2.symm⟩
      · rename_i hij
        refine .inl ⟨fun e => hij ?_, j, q, hj, h1, h2⟩
        exact hok.inj i j p q hp hj (by rw [h1, e])
    · rintro (⟨hk, j, q, hj, h1, h2⟩ | ⟨h1, h2⟩)
      · refine ⟨j, q, ?_, h1, h2⟩
        rw [hs, if_neg (fun e => by subst e; rw [hp] at hj; cases hj; exact hk h1.symm)]
        exact hj
      · exact ⟨i, ⟨p.k, v, p.b⟩, by rw [hs, if_pos rfl], h1.symm, h2.symm⟩

/-- the followers of an emptied place i0 are put in again: those ahead of m are done; e is the first free place -/
structure Dl (H : Nat → Nat) (L : Nat) (T : Tb) (i0 m e : Nat) : Prop where
  len : T.length = L
  me : m ≤ e
  eL : e < L
  fin : slot T ((i0 + e) % L) = none
  full : ∀ t, m ≤ t → t < e → slot T ((i0 + t) % L) ≠ none
  strict : ∀ j p, slot T j = some p → (¬ ∃ t, m ≤ t ∧ t < e ∧ j = (i0 + t) % L) → Reach H L T j p
  weak : ∀ t p, m ≤ t → t < e → slot T ((i0 + t) % L) = some p → ∃ d, d < L ∧ (H p.k + d) % L = (i0 + t) % L ∧ ∀ d', d' < d → slot T ((H p.k + d') % L) ≠ none ∨ ∃ s, s < m ∧ (H p.k + d') % L = (i0 + s) % L
  inj : ∀ i j p q, slot T i = some p → slot T j = some q → p.k = q.k → i = j
  room : occ T < L
theorem Dl.ok {T : Tb} {i0 e : Nat} (h : Dl H L T i0 e e) : Ok H L T := ⟨h.len, fun j p hj => h.strict j p hj (fun ⟨t, h1, h2, _⟩ => by omega), h.inj, h.room⟩

theorem first_free (T : Tb) (i0 : Nat) (n : Nat) (h : slot T ((i0 + n) % L) = none) (hn : 1 ≤ n) : ∃ e, 1 ≤ e ∧ e ≤ n ∧ slot T ((i0 + e) % L) = none ∧ ∀ t, 1 ≤ t → t < e → slot T ((i0 + t) % L) ≠ none := by
  induction n using Nat.strongRecOn with
  | _ n ih =>
    by_cases hx : ∃ t, 1 ≤ t ∧ t < n ∧ slot T ((i0 + t) % L) = none
    · obtain ⟨t, h1, h2, h3⟩ := hx
      obtain ⟨e, e1, e2, e3, e4⟩ := ih t h2 h3 h1
      exact ⟨e, e1, by omega, e3, e4⟩
    · exact ⟨n, hn, Nat.le_refl _, h, fun t h1 h2 h3 => hx ⟨t, h1, h2, h3⟩⟩

theorem del_start {T : Tb} {i0 : Nat} {p : Pk} (hok : Ok H L T) (hp : slot T i0 = some p) : ∃ e, Dl H L (T.set i0 none) i0 1 e ∧
    (∀ k v, Has (T.set i0 none) k v ↔ k ≠ p.k ∧ Has T k v) ∧ occ (T.set i0 none) + 1 = occ T := by
  have hiL := slot_lt hp
  have hiL' : i0 < L := by rw [← hok.len]; exact hiL
  have hs : ∀ j, slot (T.set i0 none) j = if i0 = j then none else slot T j := fun j => slot_set T i0 j _ hiL
  obtain ⟨f, hf, hfn⟩ := room_of_occ T (by rw [hok.len]; exact hok.room)
  rw [hok.len] at hf
  obtain ⟨n, hn, hne⟩ := dist (L := L) i0 f hf
  have hn1 : 1 ≤ n := by
    rcases Nat.eq_zero_or_pos n with h0 | h0
    · subst h0
      rw [Nat.add_zero, Nat.mod_eq_of_lt hiL'] at hne
      rw [← hne, hp] at hfn
      cases hfn
    · exact h0
  obtain ⟨e, e1, e2, e3, e4⟩ := first_free (L := L) T i0 n (by rw [hne]; exact hfn) hn1
  have hneq : ∀ t, 1 ≤ t → t < L → i0 ≠ (i0 + t) % L := fun t h1 h2 hc => by
    have := apart (L := L) (i := i0) (s := 0) (t := t) (by omega) h2 (by rw [Nat.add_zero, Nat.mod_eq_of_lt hiL']; exact hc)
    omega
  have hocc : occ (T.set i0 none) + 1 = occ T := by
    have := occ_set T i0 none hiL
    rw [hp] at this
    simpa using this
  refine ⟨e, ⟨by rw [List.length_set, hok.len], e1, by omega, by rw [hs]; split; rfl; exact e3, fun t h1 h2 => ?_, fun j q hj hno => ?_, fun t q h1 h2 hj => ?_, fun a b q r ha hb hk => ?_, by have := hok.room; omega⟩, fun k v => ?_, hocc⟩
  · rw [hs, if_neg (hneq t h1 (by omega))]; exact e4 t h1 h2
  · rw [hs] at hj
    split at hj
    · cases hj
    · rename_i hij
      obtain ⟨d, h1, h2, h3⟩ := hok.reach j q hj
      refine ⟨d, h1, h2, fun d' hd' => ?_⟩
      rw [hs]
      split
      · rename_i hc
        exfalso
        have h4 : (H q.k + d' + (d - d')) % L = (i0 + (d - d')) % L := shift (L := L) (s := d - d') (by rw [← hc, Nat.mod_eq_of_lt hiL'])
        rw [show H q.k + d' + (d - d') = H q.k + d by omega, h2] at h4
        by_cases hde : d - d' < e
        · exact hno ⟨d - d', by omega, hde, h4⟩
        · by_cases hde2 : d - d' = e
          · rw [h4, hde2, e3] at hj; cases hj
          · have h5 : (H q.k + d' + e) % L = (i0 + e) % L := shift (L := L) (s := e) (by rw [← hc, Nat.mod_eq_of_lt hiL'])
            have h6 := h3 (d' + e) (by omega)
            rw [show H q.k + (d' + e) = H q.k + d' + e by omega, h5] at h6
            exact h6 e3
      · exact h3 d' hd'
  · rw [hs] at hj
    split at hj
    · cases hj
    · obtain ⟨d, h3, h4, h5⟩ := hok.reach _ q hj
      refine ⟨d, h3, h4, fun d' hd' => ?_⟩
      rw [hs]
      split
      · rename_i hc
        right
        exact ⟨0, by omega, by rw [Nat.add_zero, Nat.mod_eq_of_lt hiL']; exact hc.symm⟩
      · exact .inl (h5 d' hd')
  · rw [hs] at ha hb
    split at ha
    · cases ha
    · split at hb
      · cases hb
      · exact hok.inj a b q r ha hb hk
  · constructor
    · rintro ⟨j, q, hj, h1, h2⟩
      rw [hs] at hj
      split at hj
      · cases hj
      · rename_i hij
        exact ⟨fun e => hij (hok.inj i0 j p q hp hj (by rw [h1, e])), j, q, hj, h1, h2⟩
    · rintro ⟨hk, j, q, hj, h1, h2⟩
      refine ⟨j, q, ?_, h1, h2⟩
      rw [hs, if_neg (fun e => by subst e; rw [hp] at hj; cases hj; exact hk h1.symm)]
      exact hj

theorem del_step {T : Tb} {i0 m e i : Nat} {p : Pk} (h : Dl H L T i0 m e) (hm : m < e) (hp : slot T ((i0 + m) % L) = some p) (hf : Found H L (T.set ((i0 + m) % L) none) p.k i) :
    slot (T.set ((i0 + m) % L) none) i = none ∧ Dl H L ((T.set ((i0 + m) % L) none).set i (some p)) i0 (m + 1) e ∧
    (∀ k v, Has ((T.set ((i0 + m) % L) none).set i (some p)) k v ↔ Has T k v) ∧ occ ((T.set ((i0 + m) % L) none).set i (some p)) = occ T := by
  obtain ⟨im, him⟩ : ∃ im, im = (i0 + m) % L := ⟨_, rfl⟩
  rw [← him] at hp hf ⊢
  have heL := h.eL
  have himL := slot_lt hp
  have hs1 : ∀ j, slot (T.set im none) j = if im = j then none else slot T j := fun j => slot_set T im j _ himL
  obtain ⟨d, hd, hi, hb, hend⟩ := hf
  have hiL : i < (T.set im none).length := by rw [List.length_set, h.len, hi]; exact Nat.mod_lt _ (by omega)
  have hnone : slot (T.set im none) i = none := by
    rcases hend with h0 | ⟨q, hq, hk⟩
    · exact h0
    · exfalso
      rw [hs1] at hq
      split at hq
      · cases hq
      · rename_i hne
        exact hne (h.inj im i p q hp hq hk.symm)
  have hs2 : ∀ j, slot ((T.set im none).set i (some p)) j = if i = j then some p else if im = j then none else slot T j := fun j => by
    rw [slot_set _ i j _ hiL, hs1]
  -- where the packet lands
  have hland : ∃ s, s ≤ m ∧ i = (i0 + s) % L := by
    obtain ⟨d0, hd0, he0, hw⟩ := h.weak m p (Nat.le_refl _) hm (by rw [← him]; exact hp)
    rcases Nat.lt_trichotomy d d0 with hlt | heq | hgt
    · rcases hw d hlt with h1 | ⟨s, h1, h2⟩
      · rw [← hi] at h1
        by_cases hc : im = i
        · exact ⟨m, Nat.le_refl _, by rw [← hc, him]⟩
        · rw [hs1, if_neg hc] at hnone
          exact absurd hnone h1
      · exact ⟨s, by omega, by rw [hi, h2]⟩
    · exact ⟨m, Nat.le_refl _, by rw [hi, heq, he0]⟩
    · obtain ⟨q, hq, _⟩ := hb d0 hgt
      rw [he0, ← him, hs1, if_pos rfl] at hq
      cases hq
  obtain ⟨s0, hs0, his⟩ := hland
  have hnei : ∀ t, m < t → t ≤ e → i ≠ (i0 + t) % L := fun t h1 h2 hc => by
    have := apart (L := L) (i := i0) (s := s0) (t := t) (by omega) (by omega) (by rw [← his]; exact hc)
    omega
  have hnem : ∀ t, m < t → t ≤ e → im ≠ (i0 + t) % L := fun t h1 h2 hc => by
    have := apart (L := L) (i := i0) (s := m) (t := t) (by omega) (by omega) (by rw [← him]; exact hc)
    omega
  have hkeep : ∀ j, j ≠ im → slot T j ≠ none → slot ((T.set im none).set i (some p)) j ≠ none := fun j h1 h2 => by
    rw [hs2]
    split
    · exact fun hc => by cases hc
    · rw [if_neg (fun hc => h1 hc.symm)]; exact h2
  have hocc : occ ((T.set im none).set i (some p)) = occ T := by
    have h1 := occ_set T im none himL
    have h2 := occ_set (T.set im none) i (some p) hiL
    rw [hp] at h1
    rw [hnone] at h2
    simp at h1 h2
    omega
  have hold : ∀ j q, slot ((T.set im none).set i (some p)) j = some q → (i = j ∧ q = p) ∨ (i ≠ j ∧ j ≠ im ∧ slot T j = some q) := fun j q hj => by
    rw [hs2] at hj
    split at hj
    · cases hj; rename_i hc; exact .inl ⟨hc, rfl⟩
    · split at hj
      · cases hj
      · rename_i h1 h2; exact .inr ⟨h1, fun hc => h2 hc.symm, hj⟩
  refine ⟨hnone, ⟨by rw [List.length_set, List.length_set, h.len], hm, h.eL, ?_, fun t h1 h2 => ?_, fun j q hj hno => ?_, fun t q h1 h2 hj => ?_, fun a b q r ha hb' hk => ?_, by rw [hocc]; exact h.room⟩, fun k v => ?_, hocc⟩
  · rw [hs2, if_neg (hnei e (by omega) (Nat.le_refl _)), if_neg (hnem e (by omega) (Nat.le_refl _))]
    exact h.fin
  · exact hkeep _ (fun hc => hnem t (by omega) (by omega) hc.symm) (h.full t (by omega) h2)
  · rcases hold j q hj with ⟨h1, h2⟩ | ⟨h1, h2, h3⟩
    · subst h1
      subst h2
      refine ⟨d, hd, hi.symm, fun d' hd' => ?_⟩
      obtain ⟨r, hr, _⟩ := hb d' hd'
      rw [hs1] at hr
      split at hr
      · cases hr
      · rename_i hc
        exact hkeep _ (fun hcc => hc hcc.symm) (by rw [hr]; exact fun hcc => by cases hcc)
    · have hno' : ¬ ∃ t, m ≤ t ∧ t < e ∧ j = (i0 + t) % L := by
        rintro ⟨t, t1, t2, t3⟩
        rcases Nat.eq_or_lt_of_le t1 with t4 | t4
        · subst t4; exact h2 (by rw [t3, him])
        · exact hno ⟨t, t4, t2, t3⟩
      obtain ⟨dj, h4, h5, h6⟩ := h.strict j q h3 hno'
      refine ⟨dj, h4, h5, fun d' hd' => ?_⟩
      by_cases hc : (H q.k + d') % L = im
      · exfalso
        have h7 : (H q.k + d' + (dj - d')) % L = (i0 + m + (dj - d')) % L := shift (L := L) (s := dj - d') (by rw [hc, him])
        rw [show H q.k + d' + (dj - d') = H q.k + dj by omega, h5] at h7
        by_cases hde : m + (dj - d') < e
        · exact hno' ⟨m + (dj - d'), by omega, hde, by rw [h7, Nat.add_assoc]⟩
        · by_cases hde2 : m + (dj - d') = e
          · rw [h7, Nat.add_assoc, hde2, h.fin] at h3; cases h3
          · have h8 : (H q.k + d' + (e - m)) % L = (i0 + m + (e - m)) % L := shift (L := L) (s := e - m) (by rw [hc, him])
            have h9 := h6 (d' + (e - m)) (by omega)
            rw [show H q.k + (d' + (e - m)) = H q.k + d' + (e - m) by omega, h8, show i0 + m + (e - m) = i0 + e by omega] at h9
            exact h9 h.fin
      · exact hkeep _ hc (h6 d' hd')
  · rcases hold _ q hj with ⟨h3, h4⟩ | ⟨h3, h4, h5⟩
    · exact absurd h3 (hnei t (by omega) (by omega))
    · obtain ⟨dj, g1, g2, g3⟩ := h.weak t q (by omega) h2 h5
      refine ⟨dj, g1, g2, fun d' hd' => ?_⟩
      by_cases hc : (H q.k + d') % L = im
      · exact .inr ⟨m, by omega, by rw [hc, him]⟩
      · rcases g3 d' hd' with g4 | ⟨s, g4, g5⟩
        · exact .inl (hkeep _ hc g4)
        · exact .inr ⟨s, by omega, g5⟩
  · rcases hold a q ha with ⟨h1, h2⟩ | ⟨h1, h2, h3⟩ <;> rcases hold b r hb' with ⟨g1, g2⟩ | ⟨g1, g2, g3⟩
    · omega
    · subst h2; exact absurd (h.inj im b q r hp g3 hk) (fun hc => g2 hc.symm)
    · subst g2; exact absurd (h.inj a im q r h3 hp hk) h2
    · exact h.inj a b q r h3 g3 hk
  · constructor
    · rintro ⟨j, q, hj, h1, h2⟩
      rcases hold j q hj with ⟨_, g2⟩ | ⟨_, _, g3⟩
      · subst g2; exact ⟨im, q, hp, h1, h2⟩
      · exact ⟨j, q, g3, h1, h2⟩
    · rintro ⟨j, q, hj, h1, h2⟩
      by_cases hc : j = im
      · subst hc
        rw [hp] at hj
        cases hj
        exact ⟨i, p, by rw [hs2, if_pos rfl], h1, h2⟩
      · refine ⟨j, q, ?_, h1, h2⟩
        rw [hs2, if_neg (fun e => ?_), if_neg (fun e => hc e.symm)]
        · exact hj
        · subst e
          rw [hs1, if_neg (fun e => hc e.symm), hj] at hnone
          cases hnone
end
end Go.Proofs.Ytpccodjmjgfloaa.fi

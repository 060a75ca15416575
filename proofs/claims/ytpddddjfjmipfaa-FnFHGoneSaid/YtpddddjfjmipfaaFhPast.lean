/-
  fhPut, fhPast; what is there when entries were deleted.
-/
import Derived.Test.YtpddddjfjmipfaaFhPrio
namespace Go.Proofs.Ytpddddjfjmipfaa.fh
open Go.ChangeShapes Go.WideShapes Go.ChangeAt Go.RowKit Go.Proofs.Ytpddddjfjmipfaa.base Go.Proofs.Ytpddddjfjmipfaa.heap Go.Proofs.Ytpddddjfjmipfaa.rows Go.Proofs.Ytpddddjfjmipfaa.flt
set_option linter.unusedVariables false

def lowP : Int := -1099511627776
def sPut (p : Int) : Stp := ⟨1, 0, p, none, 0, 0, []⟩
def s5 (k : Nat) : Stp := ⟨5, (k : Int), 0, none, 0, 0, []⟩
def past1 (g : Nat) (l : List Int) : List Stp := List.replicate g (sPut lowP) ++ l.map sPut
def past (g : Nat) (l : List Int) : List Stp := past1 g l ++ List.replicate g sDeq
def del1 (g : Nat) (o : List Bool) (j : Nat) : List Stp := if o[j]? = some true then [s5 (g + j)] else []
def dels (g : Nat) (o : List Bool) : Nat → List Stp
  | 0 => []
  | j + 1 => dels g o j ++ del1 g o j
def dl1 (o : List Bool) (j : Nat) (p : Int) : Option Int := if o[j]? = some true then none else some p
def dl (l : List Int) (o : List Bool) : Nat → Pris
  | 0 => []
  | j + 1 => dl l o j ++ [dl1 o j (l.getD j 0)]
def want1 (o : List Bool) (j : Nat) (p : Int) : List Int := if o[j]? = some true then [] else [p]
def want (l : List Int) (o : List Bool) : Nat → List Int
  | 0 => []
  | j + 1 => want l o j ++ want1 o j (l.getD j 0)
theorem live_append (A B : Pris) : live (A ++ B) = live A ++ live B := List.filterMap_append
theorem live_dl (l : List Int) (o : List Bool) (j : Nat) : live (dl l o j) = want l o j := by
  induction j with
  | zero => rfl
  | succ j ih =>
    show live (dl l o j ++ [dl1 o j _]) = want l o j ++ want1 o j _
    rw [live_append, ih]
    unfold dl1 want1
    split <;> rfl
theorem live_none (g : Nat) : live (List.replicate g none) = [] := by
  refine List.eq_nil_iff_forall_not_mem.2 (fun q hq => ?_)
  have := (List.mem_replicate.1 (live_mem.1 hq)).2
  cases this
theorem dl_len (l : List Int) (o : List Bool) (j : Nat) : (dl l o j).length = j := by
  induction j with
  | zero => rfl
  | succ j ih => show (dl l o j ++ [_]).length = _; simp [ih]
theorem Stepd.one {S S' : Pris} {x : An} {s : Stp} (h : Stepd S s x S') (hs : s.op = 1) : S' = S ++ [some s.p] ∧ x.is = true := by
  cases h with
  | enq e => exact ⟨rfl, rfl⟩
  | min0 e => rw [hs] at e; exact absurd e (by decide)
  | min e => rw [hs] at e; exact absurd e (by decide)
  | deq e h => rw [hs] at e; exact absurd e (by decide)
  | off e => rw [hs] at e; exact absurd e (by decide)
  | dec0 e => rw [hs] at e; exact absurd e (by decide)
  | dec e => rw [hs] at e; exact absurd e (by decide)
  | del e => rw [hs] at e; exact absurd e (by decide)
  | mrg e => rw [hs] at e; exact absurd e (by decide)
theorem Stepd.five {S S' : Pris} {x : An} {s : Stp} {k : Nat} {q : Int} (h : Stepd S s x S') (hs : s.op = 5) (hk : s.n = (k : Int)) (hq : S[k]? = some (some q)) : S' = S.set k none ∧ x.is = true := by
  cases h with
  | enq e => rw [hs] at e; exact absurd e (by decide)
  | min0 e => rw [hs] at e; exact absurd e (by decide)
  | min e => rw [hs] at e; exact absurd e (by decide)
  | deq e h => rw [hs] at e; exact absurd e (by decide)
  | off e h => exact absurd hq (h k q hk)
  | dec0 e => rw [hs] at e; exact absurd e (by decide)
  | dec e => rw [hs] at e; exact absurd e (by decide)
  | @del k' q' e hk' hq' =>
    obtain rfl : k' = k := by rw [hk] at hk'; omega
    exact ⟨rfl, rfl⟩
  | mrg e => rw [hs] at e; exact absurd e (by decide)
theorem full_is (x : An) (S : Pris) : (full x S).is = x.is := rfl
theorem is_snoc {As : List An} {x : An} {S : Pris} (h : ∀ y ∈ As, y.is = true) (hx : x.is = true) : ∀ y ∈ As ++ [full x S], y.is = true := fun y hy => by
  rcases List.mem_append.1 hy with hy | hy
  · exact h y hy
  · simp at hy; subst hy; exact hx
theorem ran1 {l : List Stp} {As : List An} {S : Pris} (h : Ran l As S) (hl : ∀ s ∈ l, s.op = 1) : (∀ x ∈ As, x.is = true) ∧ S = (l.map (·.p)).map some := by
  induction h with
  | nil => exact ⟨fun x hx => by simp at hx, rfl⟩
  | @snoc l As S s x S' h1 h2 ih =>
    obtain ⟨i1, i2⟩ := ih (fun s hs => hl s (by simp [hs]))
    obtain ⟨rfl, hx⟩ := h2.one (hl s (by simp))
    exact ⟨is_snoc i1 hx, by rw [i2]; simp⟩
theorem cnt_set {F : Pris} {i : Nat} {p : Int} (h : F[i]? = some (some p)) : cnt (F.set i none) + 1 = cnt F := by
  have := (live_set h).length_eq
  rw [List.length_cons, live_len, live_len] at this
  exact this
/-- behind k dequeues -/
theorem ran3 {g : Nat} {l : List Int} (hl : ∀ p ∈ l, lowP < p) : ∀ (k : Nat) {As : List An} {S : Pris}, k ≤ g → Ran (past1 g l ++ List.replicate k sDeq) As S →
    (∀ x ∈ As, x.is = true) ∧ ∃ F : Pris, S = F ++ l.map some ∧ F.length = g ∧ (∀ y ∈ F, y = none ∨ y = some lowP) ∧ cnt F + k = g
  | 0, As, S, _, h => by
    have h' : Ran (past1 g l) As S := by simpa using h
    obtain ⟨h1, h2⟩ := ran1 h' (fun s hs => by
      rcases List.mem_append.1 hs with hs | hs
      · rw [(List.mem_replicate.1 hs).2]; rfl
      · obtain ⟨p, _, rfl⟩ := List.mem_map.1 hs; rfl)
    refine ⟨h1, List.replicate g (some lowP), ?_, List.length_replicate, fun y hy => .inr (List.mem_replicate.1 hy).2, ?_⟩
    · rw [h2]
      unfold past1
      rw [List.map_append, List.map_append, List.map_replicate, List.map_replicate, List.map_map, List.map_map]
      rfl
    · unfold cnt
      rw [List.filter_eq_self.2 (fun y hy => by rw [(List.mem_replicate.1 hy).2]; rfl), List.length_replicate]; rfl
  | k + 1, As, S', hk, h => by
    rw [List.replicate_succ', ← List.append_assoc] at h
    obtain ⟨As1, x, S, rfl, h1, h2⟩ := h.inv rfl
    obtain ⟨i1, F, rfl, f1, f2, f3⟩ := ran3 hl k (by omega) h1
    have hpos : 0 < cnt F := by omega
    rw [← live_len] at hpos
    obtain ⟨q, hq⟩ : ∃ q, q ∈ live F := ⟨_, List.getElem_mem hpos⟩
    have hqF := live_mem.1 hq
    have hql : q = lowP := by
      rcases f2 _ hqF with e | e
      · cases e
      · exact Option.some.inj e
    subst hql
    rcases h2.three rfl with ⟨_, _, h0⟩ | ⟨i, p, hp, rfl, rfl⟩
    · rw [live_append] at h0
      have := (List.append_eq_nil_iff.1 h0).1
      rw [this] at hq; cases hq
    · have hle := hp.2 lowP (List.mem_append_left _ hqF)
      have hig : i < F.length := by
        rcases Nat.lt_or_ge i F.length with h9 | h9
        · exact h9
        · have := hp.1
          rw [List.getElem?_append_right h9] at this
          obtain ⟨p', hp', e⟩ := List.mem_map.1 (List.mem_of_getElem? this)
          cases e
          have := hl p hp'
          omega
      have hFi : F[i]? = some (some p) := by
        have := hp.1
        rwa [List.getElem?_append_left hig] at this
      refine ⟨is_snoc i1 rfl, F.set i none, List.set_append_left _ _ hig, by simp [f1], fun y hy => ?_, ?_⟩
      · rcases List.mem_or_eq_of_mem_set hy with hy | rfl
        · exact f2 y hy
        · exact .inl rfl
      · have := cnt_set hFi
        omega
theorem cnt0 {F : Pris} (h : cnt F = 0) : F = List.replicate F.length none := by
  refine List.eq_replicate_iff.2 ⟨rfl, fun y hy => ?_⟩
  cases y with
  | none => rfl
  | some q =>
    have h1 : q ∈ live F := live_mem.2 hy
    have h2 : live F = [] := List.eq_nil_of_length_eq_zero (by rw [live_len]; exact h)
    rw [h2] at h1; cases h1
/-- behind j of the deletions -/
theorem ran5 {g : Nat} {l : List Int} {o : List Bool} (hl : ∀ p ∈ l, lowP < p) : ∀ (j : Nat) {As : List An} {S : Pris}, j ≤ l.length → Ran (past g l ++ dels g o j) As S →
    (∀ x ∈ As, x.is = true) ∧ S = List.replicate g none ++ dl l o j ++ (l.drop j).map some
  | 0, As, S, _, h => by
    have h' : Ran (past1 g l ++ List.replicate g sDeq) As S := by simpa [dels, past] using h
    obtain ⟨h1, F, rfl, f1, f2, f3⟩ := ran3 hl g (Nat.le_refl _) h'
    refine ⟨h1, ?_⟩
    rw [cnt0 (F := F) (by omega), f1]
    simp [dl]
  | j + 1, As, S', hj, h => by
    have hjl : j < l.length := by omega
    have hd : l.drop j = l.getD j 0 :: l.drop (j + 1) := by
      rw [List.drop_eq_getElem_cons hjl, List.getD_eq_getElem?_getD, List.getElem?_eq_getElem hjl]; rfl
    rw [show dels g o (j + 1) = dels g o j ++ del1 g o j from rfl] at h
    by_cases ho : o[j]? = some true
    · have e1 : del1 g o j = [s5 (g + j)] := if_pos ho
      rw [e1, ← List.append_assoc] at h
      obtain ⟨As1, x, S, rfl, h1, h2⟩ := h.inv rfl
      obtain ⟨i1, rfl⟩ := ran5 hl j (by omega) h1
      have hlen : (List.replicate g none ++ dl l o j).length = g + j := by rw [List.length_append, List.length_replicate, dl_len]
      obtain ⟨rfl, hx⟩ := h2.five (k := g + j) (q := l.getD j 0) rfl rfl (by rw [List.getElem?_append_right (by rw [hlen]; exact Nat.le_refl _), hlen, Nat.sub_self, hd]; rfl)
      refine ⟨is_snoc i1 hx, ?_⟩
      rw [List.set_append_right _ _ (by rw [hlen]; exact Nat.le_refl _), hlen, Nat.sub_self, hd]
      show _ = List.replicate g none ++ (dl l o j ++ [dl1 o j (l.getD j 0)]) ++ _
      unfold dl1
      rw [if_pos ho]
      simp
    · have e1 : del1 g o j = [] := if_neg ho
      rw [e1, List.append_nil] at h
      obtain ⟨i1, rfl⟩ := ran5 hl j (by omega) h
      refine ⟨i1, ?_⟩
      rw [hd]
      show _ = List.replicate g none ++ (dl l o j ++ [dl1 o j (l.getD j 0)]) ++ _
      unfold dl1
      rw [if_neg ho]
      simp
theorem leaves5 {g : Nat} {l : List Int} {o : List Bool} (hl : ∀ p ∈ l, lowP < p) : fh.Leaves (past g l ++ dels g o l.length) (want l o l.length) := fun As S h => by
  obtain ⟨h1, rfl⟩ := ran5 hl l.length (Nat.le_refl _) h
  refine ⟨h1, ?_⟩
  rw [live_append, live_append, live_none, live_dl]
  simp [live]
end Go.Proofs.Ytpddddjfjmipfaa.fh

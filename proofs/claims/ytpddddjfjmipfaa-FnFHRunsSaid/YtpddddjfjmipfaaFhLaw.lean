/-
  Plain law: what comes out of a heap when it is emptied.
-/
import Derived.Test.YtpddddjfjmipfaaFhRun
import Derived.Test.YtpddddjfjmipfaaSrtL
namespace Go.Proofs.Ytpddddjfjmipfaa.fh
open Go.RowKit Go.Proofs.Ytpddddjfjmipfaa.base Go.Proofs.Ytpddddjfjmipfaa.heap Go.Proofs.Ytpddddjfjmipfaa.rows Go.Proofs.Ytpddddjfjmipfaa.flt
set_option linter.unusedVariables false

def live (S : Pris) : List Int := S.filterMap id
theorem live_mem {S : Pris} {q : Int} : q ∈ live S ↔ some q ∈ S := by unfold live; simp
theorem live_len (S : Pris) : (live S).length = cnt S := by
  unfold live cnt
  induction S with
  | nil => rfl
  | cons y S ih => cases y <;> simpa using ih
theorem live_set {S : Pris} {i : Nat} {p : Int} (h : S[i]? = some (some p)) : (p :: live (S.set i none)).Perm (live S) := by
  obtain ⟨h1, h2⟩ := List.getElem?_eq_some_iff.1 h
  have e : S = S.take i ++ some p :: S.drop (i + 1) := by
    have h3 : S.drop i = some p :: S.drop (i + 1) := by rw [List.drop_eq_getElem_cons h1, h2]
    rw [← h3, List.take_append_drop]
  have e2 : S.set i none = S.take i ++ none :: S.drop (i + 1) := by
    rw [List.set_eq_take_append_cons_drop, if_pos h1]
  unfold live
  rw [e2]
  conv => rhs; rw [e]
  rw [List.filterMap_append, List.filterMap_append, List.filterMap_cons, List.filterMap_cons]
  exact List.perm_middle.symm
def sDeq : Stp := ⟨3, 0, 0, none, 0, 0, []⟩
def sMin : Stp := ⟨2, 0, 0, none, 0, 0, []⟩
def Srt (R : List Int) : Prop := R.Pairwise (· ≤ ·)
theorem Ran.len {l : List Stp} {As : List An} {S : Pris} (h : Ran l As S) : As.length = l.length := by
  induction h with
  | nil => rfl
  | snoc _ _ ih => simp [ih]
theorem Ran.inv {l l0 : List Stp} {As : List An} {S' : Pris} {s : Stp} (h : Ran l As S') (hl : l = l0 ++ [s]) : ∃ As0 x S, As = As0 ++ [full x S'] ∧ Ran l0 As0 S ∧ Stepd S s x S' := by
  cases h with
  | nil => simp at hl
  | snoc h1 h2 =>
    obtain ⟨rfl, h3⟩ := List.append_inj' hl rfl
    simp at h3
    subst h3
    exact ⟨_, _, _, rfl, h1, h2⟩
theorem Stepd.three {S S' : Pris} {x : An} {s : Stp} (h : Stepd S s x S') (hs : s.op = 3) : (S' = S ∧ x = no ∧ live S = []) ∨ ∃ i p, Lst S i p ∧ x = ⟨true, (i : Int), p, 0, false⟩ ∧ S' = S.set i none := by
  cases h with
  | enq e => rw [hs] at e; exact absurd e (by decide)
  | min0 e h => exact .inl ⟨rfl, rfl, List.eq_nil_iff_forall_not_mem.2 (fun q hq => h q (live_mem.1 hq))⟩
  | min e => rw [hs] at e; exact absurd e (by decide)
  | deq e h => exact .inr ⟨_, _, h, rfl, rfl⟩
  | off e => rw [hs] at e; exact absurd e (by decide)
  | dec0 e => rw [hs] at e; exact absurd e (by decide)
  | dec e => rw [hs] at e; exact absurd e (by decide)
  | del e => rw [hs] at e; exact absurd e (by decide)
  | mrg e => rw [hs] at e; exact absurd e (by decide)
theorem Stepd.two {S S' : Pris} {x : An} {s : Stp} (h : Stepd S s x S') (hs : s.op = 2) : S' = S ∧ ((x = no ∧ live S = []) ∨ ∃ i p, Lst S i p ∧ x = ⟨true, (i : Int), p, 0, false⟩) := by
  cases h with
  | enq e => rw [hs] at e; exact absurd e (by decide)
  | min0 e h => exact ⟨rfl, .inl ⟨rfl, List.eq_nil_iff_forall_not_mem.2 (fun q hq => h q (live_mem.1 hq))⟩⟩
  | min e h => exact ⟨rfl, .inr ⟨_, _, h, rfl⟩⟩
  | deq e h => rw [hs] at e; exact absurd e (by decide)
  | off e => rw [hs] at e; exact absurd e (by decide)
  | dec0 e => rw [hs] at e; exact absurd e (by decide)
  | dec e => rw [hs] at e; exact absurd e (by decide)
  | del e => rw [hs] at e; exact absurd e (by decide)
  | mrg e => rw [hs] at e; exact absurd e (by decide)
/-- k entries are dequeued -/
theorem deqs {L0 : List Stp} : ∀ (k : Nat) {As : List An} {S : Pris}, Ran (L0 ++ List.replicate k sDeq) As S → ∃ As0 S0, Ran L0 As0 S0 ∧ (k ≤ (live S0).length → ∃ Bs : List An, As = As0 ++ Bs ∧ Bs.length = k ∧ (∀ x ∈ Bs, x.is = true) ∧ ((Bs.map (·.p)) ++ live S).Perm (live S0) ∧ Srt (Bs.map (·.p)) ∧ (∀ x ∈ Bs.map (·.p), ∀ y ∈ live S, x ≤ y))
  | 0, As, S, h => ⟨As, S, by simpa using h, fun _ => ⟨[], by simp, rfl, fun x hx => by simp at hx, by simp, List.Pairwise.nil, fun x hx => by simp at hx⟩⟩
  | k + 1, As, S', h => by
    rw [List.replicate_succ', ← List.append_assoc] at h
    obtain ⟨As1, x, S, rfl, h1, h2⟩ := h.inv rfl
    obtain ⟨As0, S0, r0, hr⟩ := deqs k h1
    refine ⟨As0, S0, r0, fun hk => ?_⟩
    obtain ⟨Bs, rfl, b1, b2, b3, b4, b5⟩ := hr (by omega)
    have hlen := b3.length_eq
    rw [List.length_append, List.length_map, b1] at hlen
    rcases h2.three rfl with ⟨_, _, h0⟩ | ⟨i, p, hl, rfl, rfl⟩
    · rw [h0] at hlen; simp at hlen; omega
    · have hp := live_set hl.1
      have hpm : p ∈ live S := live_mem.2 (List.mem_of_getElem? hl.1)
      refine ⟨Bs ++ [full ⟨true, (i : Int), p, 0, false⟩ (S.set i none)], by simp, by simp [b1], fun y hy => ?_, ?_, ?_, fun y hy z hz => ?_⟩
      · rcases List.mem_append.1 hy with hy | hy
        · exact b2 y hy
        · simp at hy; subst hy; rfl
      · rw [List.map_append, List.append_assoc]
        exact (List.Perm.append_left _ hp).trans b3
      · rw [List.map_append]
        refine List.pairwise_append.2 ⟨b4, by simp, fun a ha b hb => ?_⟩
        simp at hb
        subst hb
        exact b5 a ha _ hpm
      · have hz' : z ∈ live S := hp.mem_iff.1 (List.mem_cons_of_mem _ hz)
        rw [List.map_append] at hy
        rcases List.mem_append.1 hy with hy | hy
        · exact b5 y hy z hz'
        · simp at hy
          subst hy
          exact hl.2 z (live_mem.1 hz')
theorem srt_srt (l : List Int) : Srt (srt l) := by
  have := List.pairwise_mergeSort (le := fun x y : Int => decide (x ≤ y)) (fun a b c h1 h2 => by simp at *; omega) (fun a b => by simp; omega) l
  exact this.imp (fun h => by simpa using h)
theorem srt_perm (l : List Int) : (srt l).Perm l := List.mergeSort_perm _ _
theorem srt_unique {R l : List Int} (h : Srt R) (hp : R.Perm l) : R = srt l :=
  List.Perm.eq_of_pairwise (fun a b _ _ h1 h2 => Int.le_antisymm h1 h2) h (srt_srt l) (hp.trans (srt_perm l).symm)
/-- what is asked of steps: none has an error, and l is there behind them -/
def Leaves (L0 : List Stp) (l : List Int) : Prop := ∀ As S, Ran L0 As S → (∀ x ∈ As, x.is = true) ∧ (live S).Perm l
/-- the steps, as many dequeues, and Min -/
theorem leaves_law {L0 : List Stp} {l : List Int} (h : Leaves L0 l) {As : List An} {S : Pris} (hr : Ran (L0 ++ List.replicate l.length sDeq ++ [sMin]) As S) :
    ∃ Bs x, As = Bs ++ [x] ∧ Bs.length = L0.length + l.length ∧ (∀ x ∈ Bs, x.is = true) ∧ x.is = false ∧ x.emp = true ∧ (Bs.drop L0.length).map (·.p) = srt l := by
  obtain ⟨As1, x, S1, rfl, h1, h2⟩ := hr.inv rfl
  obtain ⟨As0, S0, r0, hk⟩ := deqs l.length h1
  obtain ⟨g1, g2⟩ := h As0 S0 r0
  have hl0 : (live S0).length = l.length := g2.length_eq
  obtain ⟨Bs, rfl, b1, b2, b3, b4, b5⟩ := hk (by omega)
  have hl1 : live S1 = [] := by
    have := b3.length_eq
    rw [List.length_append, List.length_map] at this
    exact List.eq_nil_of_length_eq_zero (by omega)
  obtain ⟨rfl, h3⟩ := h2.two rfl
  have hx : x = no := by
    rcases h3 with ⟨h3, _⟩ | ⟨i, p, h3, _⟩
    · exact h3
    · have := live_mem.2 (List.mem_of_getElem? h3.1)
      rw [hl1] at this; cases this
  subst hx
  have hn := r0.len
  refine ⟨As0 ++ Bs, _, rfl, by rw [List.length_append, hn, b1], fun y hy => ?_, rfl, ?_, ?_⟩
  · rcases List.mem_append.1 hy with hy | hy
    · exact g1 y hy
    · exact b2 y hy
  · show (cnt S == 0) = true
    rw [← live_len, hl1]; rfl
  · rw [← hn, List.drop_left]
    refine srt_unique b4 ?_
    rw [hl1, List.append_nil] at b3
    exact b3.trans g2
theorem slSt : SliceOf Try.prog 22 31 4 48 := SliceOf.mk (z := .agg #[.int .i64 0, .int .i64 0, .int .i64 0, .slice none 0 0]) Try.underlying22 (by kernel_rfl) rfl
theorem rl_keep {α : Type} {f : α → Value} {w w' : World} {a : Option Addr} {n cap : Nat} {l : List α} {S : Nat → Prop} (h : RL f w a n cap l) (ho : Only S w w') (hn : 0 < n → ∀ k, At a k → ¬ S k) : RL f w' a n cap l := by
  rcases Nat.eq_zero_or_pos n with rfl | hp
  · exact ⟨⟨h.1.len, h.1.le, h.1.max, h.1.one, fun h0 => absurd h0 (Nat.lt_irrefl _), h.1.nilcap⟩, h.2⟩
  · exact h.keep ho (hn hp)
theorem rl_lt {α : Type} {f : α → Value} {w : World} {a : Option Addr} {n cap : Nat} {l : List α} (h : RL f w a n cap l) (h0 : 0 < n) : ∀ k, At a k → k < w.heap.size := by
  obtain ⟨b, off, rfl, hb, _⟩ := h.at h0
  intro k hk
  have : b = k := hk
  omega
theorem sDeq_ok : Okay sDeq := ⟨by show (1 : Int) ≤ 3 ∧ (3 : Int) ≤ 6; omega, by show Int.natAbs 0 ≤ _; simp [Big], by show 0 ≤ 40; omega, rfl, fun p hp => absurd hp List.not_mem_nil⟩
theorem sMin_ok : Okay sMin := ⟨by show (1 : Int) ≤ 2 ∧ (2 : Int) ≤ 6; omega, by show Int.natAbs 0 ≤ _; simp [Big], by show 0 ≤ 40; omega, rfl, fun p hp => absurd hp List.not_mem_nil⟩
def sPut (p : Int) : Stp := ⟨1, 0, p, none, 0, 0, []⟩
theorem Stepd.one {S S' : Pris} {x : An} {s : Stp} (h : Stepd S s x S') (hs : s.op = 1) : S' = S ++ [some s.p] ∧ x.is = true := by
  cases h with
  | enq e => exact ⟨rfl, rfl⟩
  | min0 e => rw [hs] at e; exact absurd e (by decide)
  | min e => rw [hs] at e; exact absurd e (by decide)
  | deq e h => rw [hs] at e; exact absurd e (by decide)
  | off e => rw [hs] at e; exact absurd e (by decide)
  | dec0 e => rw [hs] at e; exact absurd e (by decide)
  | dec e => rw [hs] at e; exact absurd e (by decide)
  | del e => rw [hs] at e; exact absurd e (by decide)
  | mrg e => rw [hs] at e; exact absurd e (by decide)
theorem full_is (x : An) (S : Pris) : (full x S).is = x.is := rfl
theorem is_snoc {As : List An} {x : An} {S : Pris} (h : ∀ y ∈ As, y.is = true) (hx : x.is = true) : ∀ y ∈ As ++ [full x S], y.is = true := fun y hy => by
  rcases List.mem_append.1 hy with hy | hy
  · exact h y hy
  · simp at hy; subst hy; exact hx
theorem ran1 {l : List Stp} {As : List An} {S : Pris} (h : Ran l As S) (hl : ∀ s ∈ l, s.op = 1) : (∀ x ∈ As, x.is = true) ∧ S = (l.map (·.p)).map some := by
  induction h with
  | nil => exact ⟨fun x hx => by simp at hx, rfl⟩
  | @snoc l As S s x S' h1 h2 ih =>
    obtain ⟨i1, i2⟩ := ih (fun s hs => hl s (by simp [hs]))
    obtain ⟨rfl, hx⟩ := h2.one (hl s (by simp))
    exact ⟨is_snoc i1 hx, by rw [i2]; simp⟩
/-- a new list of steps -/
structure Nws (w wr : World) (sa : Option Addr) (n sc : Nat) (L : List Stp) : Prop where
  row : OS 31 stc 4 wr sa n sc L
  same : Same w wr
  new : ∀ j, At sa j → w.heap.size ≤ j
theorem Nws.nil (w : World) : Nws w w none 0 0 [] := ⟨OS.nil _ _ _ _, Only.refl _ _, fun j hj => hj.elim⟩
theorem Nws.grew {w wr w1 w2 : World} {sa sa2 : Option Addr} {n sc sc2 k : Nat} {L N : List Stp} (h : Nws w wr sa n sc L) (h1 : Same wr w1) (hk : N.length = k) (hG : Grew 31 4 w1 w2 sa sa2 k (n + k) sc sc2 (L.flatMap stc ++ N.flatMap stc)) : Nws w w2 sa2 (n + k) sc2 (L ++ N) := by
  have z0 := h.same.size
  have z1 := h1.size
  have hO : Only (At sa) wr w2 := Only.trans (S := At sa) (h1.mono (fun _ _ f => f.elim)) hG.only (fun _ _ h => h)
  refine ⟨⟨by rw [List.flatMap_append]; exact hG.own, by rw [List.length_append, h.row.2, hk]⟩, new_only h.same hO h.new, fun j hj => ?_⟩
  rcases hG.fresh j hj with h' | h'
  · exact h.new j h'
  · omega
end Go.Proofs.Ytpddddjfjmipfaa.fh

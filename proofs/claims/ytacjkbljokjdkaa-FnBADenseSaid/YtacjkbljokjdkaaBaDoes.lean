/-
  What a step does, by lists of bits.
-/
import Derived.Test.YtacjkbljokjdkaaBaTwoS
import Derived.Test.YtacjkbljokjdkaaBaMk
namespace Go.Proofs.Ytacjkbljokjdkaa.ba
open Go.RowKit Go.Proofs.Ytacjkbljokjdkaa.base Go.Proofs.Ytacjkbljokjdkaa.heap Go.Proofs.Ytacjkbljokjdkaa.rows Go.Proofs.Ytacjkbljokjdkaa.bit Go.Proofs.Ytacjkbljokjdkaa.bs
set_option linter.unusedVariables false

/-- the value of an answer whose numbers stand at na -/
def anv (an : Ans) (na : Option Addr) (nc : Nat) : Value := .agg #[.bool an.yes, .int .u64 (an.n : Int), .slice na an.nums.length nc, .bool false]
/-- what a step leaves -/
def StepP (q : Nat) (a : Option Addr) (l : List It) (s' : List BA) (an : Ans) (w : World) (e : Ending) (w' : World) : Prop :=
  ∃ na nc a' c' l', e = .returned (anv an na nc) ∧ Sta w' q a' c' l' ∧ l'.map (·.d) = s' ∧ Only (Fo q a l) w w' ∧ (∀ k, Fo q a' l' k → Fo q a l k ∨ w.heap.size ≤ k) ∧
    Own 24 1 w' na an.nums.length nc (U an.nums) ∧ ∀ k, At na k → w.heap.size ≤ k ∧ ¬ Fo q a' l' k
/-- the step t, done on the arrays s, leaves s' and is answered by an -/
def Does (s : List BA) (t : Stp) (s' : List BA) (an : Ans) : Prop :=
  ∀ (w : World) (q c : Nat) (a : Option Addr) (l : List It), Sta w q a c l → l.map (·.d) = s → l.length ≤ 1000 → Calls Try.prog 24 #[.pointer (some ⟨q, 0, none⟩), stv t] w (StepP q a l s' an w)
theorem own_nil (w : World) : Own 24 1 w none ([] : List Nat).length 0 (U []) := Own.nil _ _ _

theorem get_of_map {l : List It} {s : List BA} {i : Nat} {d : BA} (h : l.map (·.d) = s) (hd : s[i]? = some d) : ∃ x, l[i]? = some x ∧ x.d = d := by
  subst h
  rw [List.getElem?_map] at hd
  cases hx : l[i]? with
  | none => rw [hx] at hd; cases hd
  | some x => rw [hx] at hd; exact ⟨x, rfl, by simpa using hd⟩
theorem map_set (l : List It) (i : Nat) (y : It) : (l.set i y).map (·.d) = (l.map (·.d)).set i y.d := by
  rw [List.map_set]

theorem Arr.dn {w : World} {v : Value} {d : BA} {F : Nat → Prop} (h : Arr w v d F) (hd : d.dense = true) : ∃ p a c ws lo hi any, v = .iface 85 (.pointer (some ⟨p, 0, none⟩)) ∧ F = Ft p a ∧ d.words = ws.length ∧ Dn w p a c ws lo hi any ∧ Rep (wf ws) d.set ∧ Ends ws lo hi any := by
  cases h with
  | dense p a c ws lo hi any l h hr he => exact ⟨p, a, c, ws, lo, hi, any, rfl, rfl, rfl, h, hr, he⟩
  | sparse p ab cb ai ci P l h hr => cases hd
theorem Arr.sp {w : World} {v : Value} {d : BA} {F : Nat → Prop} (h : Arr w v d F) (hd : d.dense = false) : ∃ p ab cb ai ci P, v = .iface 87 (.pointer (some ⟨p, 0, none⟩)) ∧ F = Fs p ab ai ∧ d.words = 0 ∧ Sp w p ab cb ai ci P ∧ Rep (wd P) d.set := by
  cases h with
  | dense p a c ws lo hi any l h hr he => cases hd
  | sparse p ab cb ai ci P l h hr => exact ⟨p, ab, cb, ai, ci, P, rfl, rfl, rfl, h, hr⟩

/-- a step that only asks -/
theorem does_ask {s : List BA} {w : World} {q c : Nat} {a : Option Addr} {l : List It} (h : Sta w q a c l) (hs : l.map (·.d) = s) (an : Ans) (hn : an.nums = []) {e : Ending} {w' : World} (hp : FV w (.agg #[.bool an.yes, .int .u64 (an.n : Int), .slice none 0 0, .bool false]) e w') : StepP q a l s an w e w' := by
  obtain ⟨rfl, hS⟩ := hp
  refine ⟨none, 0, a, c, l, by unfold anv; rw [hn]; rfl, h.still hS, hs, hS.mono (fun _ _ f => f.elim), fun k hk => .inl hk, by rw [hn]; exact own_nil _, fun k hk => hk.elim⟩
/-- a step by which an array turns -/
theorem does_turn {s : List BA} {w : World} {q c : Nat} {a : Option Addr} {l : List It} (h : Sta w q a c l) (hs : l.map (·.d) = s) (an : Ans) (hn : an.nums = []) {i : Nat} {x : It} {d' : BA} (hx : l[i]? = some x) {e : Ending} {w' : World} (hp : Turn (.agg #[.bool an.yes, .int .u64 (an.n : Int), .slice none 0 0, .bool false]) x.F x.v d' w e w') : StepP q a l (s.set i d') an w e w' := by
  obtain ⟨rfl, ho, F', hA, hF'⟩ := hp
  refine ⟨none, 0, a, c, l.set i ⟨x.v, d', F'⟩, by unfold anv; rw [hn]; rfl, h.set hx rfl hF' hA ho, by rw [map_set, hs], ho.mono (fun k _ hk => .inr (.inr ⟨x, List.mem_of_getElem? hx, hk⟩)), Fo.set hx hF', by rw [hn]; exact own_nil _, fun k hk => hk.elim⟩
/-- a step that makes an array -/
theorem does_more {s : List BA} {w : World} {q c : Nat} {a : Option Addr} {l : List It} (h : Sta w q a c l) (hs : l.map (·.d) = s) (an : Ans) (hn : an.nums = []) {d : BA} {e : Ending} {w' : World} (hp : MoreP q a l d (.agg #[.bool an.yes, .int .u64 (an.n : Int), .slice none 0 0, .bool false]) w e w') : StepP q a l (s ++ [d]) an w e w' := by
  obtain ⟨rfl, a', c', y, hd, hst, ho, hfa, hfy⟩ := hp
  refine ⟨none, 0, a', c', l ++ [y], by unfold anv; rw [hn]; rfl, hst, by rw [List.map_append, hs, ← hd]; rfl, ho.mono (fun k _ hk => hk.imp id .inl), ?_, by rw [hn]; exact own_nil _, fun k hk => hk.elim⟩
  rintro k (hk | hk | ⟨x, hx, hk⟩)
  · exact .inl (.inl hk)
  · exact (hfa k hk).imp (fun h => .inr (.inl h)) id
  · rcases List.mem_append.1 hx with hx | hx
    · exact .inl (.inr (.inr ⟨x, hx, hk⟩))
    · rw [List.mem_singleton] at hx
      subst hx
      exact .inr (hfy k hk)
/-- a step that lists numbers -/
theorem does_nums {s : List BA} {w : World} {q c : Nat} {a : Option Addr} {l : List It} (h : Sta w q a c l) (hs : l.map (·.d) = s) (L : List Nat) {e : Ending} {w' : World} (hp : NumsA L w e w') : StepP q a l s { nums := L } w e w' := by
  obtain ⟨an, cn, rfl, hown, hS, hf⟩ := hp
  exact ⟨an, cn, a, c, l, rfl, h.still hS, hs, hS.mono (fun _ _ f => f.elim), fun k hk => .inl hk, hown, fun k hk => ⟨hf k hk, fun h2 => absurd (h.lt k h2) (by have := hf k hk; omega)⟩⟩

theorem does_dense (s : List BA) (k : Nat) (hk : k ≤ 64000000) : Does s { op := 1, k := k } (s ++ [⟨true, (k + 63) / 64, []⟩]) {} :=
  fun w q c a l h hs hl => (stepDense h (by omega) k hk).mono fun e w' hp => does_more h hs {} rfl hp
theorem does_sparse (s : List BA) : Does s { op := 2 } (s ++ [⟨false, 0, []⟩]) {} :=
  fun w q c a l h hs hl => (stepSparse h (by omega)).mono fun e w' hp => does_more h hs {} rfl hp
end Go.Proofs.Ytacjkbljokjdkaa.ba

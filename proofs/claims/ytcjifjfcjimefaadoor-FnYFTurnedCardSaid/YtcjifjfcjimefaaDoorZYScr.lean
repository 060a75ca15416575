/-
  Scripts in memory; their answers.
-/
import Derived.Test.YtcjifjfcjimefaaDoorZYTurn
import Derived.Test.YtcjifjfcjimefaaDoorZYAsks
import Derived.Test.YtcjifjfcjimefaaDoorZXfTell
import Derived.Test.YtcjifjfcjimefaaDoorZXfFew
namespace Go.Proofs.YtcjifjfcjimefaaDoor.xf
open Go.RowKit Go.Proofs.YtcjifjfcjimefaaDoor.base Go.Proofs.YtcjifjfcjimefaaDoor.heap Go.Proofs.YtcjifjfcjimefaaDoor.rows Go.Proofs.YtcjifjfcjimefaaDoor.mapn
set_option linter.unusedVariables false

theorem runL_ones {l : List It} {S : List Stp} (hl : S.length = l.length) (h : ∀ (i : Nat) (s : Stp), S[i]? = some s → s.op = 1 ∧ ∃ y, l[i]? = some y ∧ s.I = [y]) : runL S = puts [] l := by
  have key : ∀ k, k ≤ l.length → runL (S.take k) = puts [] (l.take k) := by
    intro k
    induction k with
    | zero => intro _; rfl
    | succ k ih =>
      intro hk
      have hS : S[k]? = some S[k] := List.getElem?_eq_getElem (by omega)
      obtain ⟨h1, y, h2, h3⟩ := h k _ hS
      rw [take_snoc S k _ hS, take_snoc l k y h2, runL_snoc, puts_snoc, ih (by omega)]
      unfold nxt
      rw [if_pos h1, h3]
      rfl
  have := key l.length (Nat.le_refl _)
  rwa [List.take_of_length_le (by omega), List.take_of_length_le (Nat.le_refl _)] at this
/-- a script in memory -/
structure Scr (w : World) (m : Nat) (a : Option Addr) (n cap : Nat) (S : List Stp) : Prop where
  row : RS stc 3 w a n cap S
  ok : ∀ s ∈ S, Okay m s ∧ s.km = 1 ∧ StIn w s ∧ (s.op = 1 ∨ s.op = 3 ∨ s.op = 5)
theorem Scr.still {w w' : World} {m : Nat} {a : Option Addr} {n cap : Nat} {S : List Stp} (h : Scr w m a n cap S) (hs : Same w w') : Scr w' m a n cap S := ⟨h.row.still hs, fun s hm => ⟨(h.ok s hm).1, (h.ok s hm).2.1, (h.ok s hm).2.2.1.still hs, (h.ok s hm).2.2.2⟩⟩
theorem Asks.scr {w wr : World} {m : Nat} {oa : Option Addr} {n cap : Nat} {S : List Stp} (h : Asks w wr m oa n cap S) : Scr wr m oa n cap S := ⟨h.row.row.rs, fun s hs => ⟨(h.ok s hs).1, (h.ok s hs).2.1, (h.ins s hs).1, .inr (h.ok s hs).2.2⟩⟩
/-- steps that insert, and steps that ask -/
theorem Ones.app {w wr wk w8 : World} {l : List It} {m : Nat} {oa oa2 aa : Option Addr} {n oc oc2 na ca N : Nat} {S1 S2 : List Stp} (h : Ones w wr l oa n oc S1) (hl : ∀ y ∈ l, y.1 < 2 ^ m) (hA : Scr w m aa na ca S2) (hk : Same wr wk) (hN : n + na = N)
    (hG : Grew 34 3 wk w8 oa oa2 na N oc oc2 (S1.flatMap stc ++ S2.flatMap stc)) : Scr w8 m oa2 N oc2 (S1 ++ S2) ∧ Same w w8 := by
  have hS : Same w w8 := new_only (h.row.same.trans hk) hG.only h.row.new
  refine ⟨⟨⟨by rw [List.flatMap_append]; exact hG.own.rd, by rw [List.length_append, h.row.row.2, hA.row.2]; exact hN⟩, fun s hs => ?_⟩, hS⟩
  rcases List.mem_append.1 hs with hs | hs
  · obtain ⟨i, hi⟩ := List.getElem?_of_mem hs
    obtain ⟨g1, ⟨y, g2, g3⟩, g4, g5⟩ := h.stp i s hi
    obtain ⟨k1, k2⟩ := h.key i s hi
    have hkm : s.km = 1 := by have := k1.2; simpa using this.symm
    refine ⟨⟨by omega, by rw [g3]; exact Nat.le_of_ble_eq_true rfl, fun z hz => ?_, by rw [g4]; exact Nat.two_pow_pos m⟩, hkm, ⟨g5.still hS, ?_⟩, .inl g1⟩
    · rw [g3, List.mem_singleton] at hz
      subst hz
      exact hl z (List.mem_of_getElem? g2)
    · rw [g4]
      exact (k1.still hk).keep hG.only (fun k hk => (k2 k hk).2.2)
  · obtain ⟨g1, g2, g3, g4⟩ := hA.ok s hs
    exact ⟨g1, g2, g3.still hS, g4⟩
/-- one step that inserts all, and steps that ask -/
theorem Scr.all {w w8 : World} {l : List It} {m : Nat} {oa2 aa ia : Option Addr} {im ic oc2 na ca N : Nat} {S2 : List Stp} (hR : RS itc 2 w ia im ic l) (hl : ∀ y ∈ l, y.1 < 2 ^ m) (h60 : im ≤ 60) (hA : Scr w m aa na ca S2) (hN : 1 + na = N)
    (hG : Grew 34 3 ((w.alloc (.cells #[.int .u64 0] 25)).alloc (.cells #[.int .i64 1, .slice ia im ic, .slice (some ⟨w.heap.size, 0, none⟩) 1 1] 34)) w8 (some ⟨w.heap.size + 1, 0, none⟩) oa2 na N 1 oc2 (stc ⟨1, ia, im, ic, l, some ⟨w.heap.size, 0, none⟩, 1, 1, [0]⟩ ++ S2.flatMap stc)) :
    Scr w8 m oa2 N oc2 ([⟨1, ia, im, ic, l, some ⟨w.heap.size, 0, none⟩, 1, 1, [0]⟩] ++ S2) ∧ Same w w8 := by
  have hs1 : Same w (w.alloc (.cells #[.int .u64 0] 25)) := (Only.refl _ _).alloc _
  have hs2 : Same w ((w.alloc (.cells #[.int .u64 0] 25)).alloc (.cells #[.int .i64 1, .slice ia im ic, .slice (some ⟨w.heap.size, 0, none⟩) 1 1] 34)) := hs1.alloc _
  have hS : Same w w8 := new_only hs2 hG.only (fun k hk => by have e : w.heap.size + 1 = k := hk; omega)
  have hkey : RL uv w8 (some ⟨w.heap.size, 0, none⟩) 1 1 [0] := by
    have hO := Go.Proofs.YtcjifjfcjimefaaDoor.heap.Own.made 25 1 w #[.int .u64 0] 1 1 (Nat.le_refl _) (by unfold maxLen; omega) rfl (by simp [Value.oneCell'])
    have h1 : RL uv (w.alloc (.cells #[.int .u64 0] 25)) (some ⟨w.heap.size, 0, none⟩) 1 1 [0] := ⟨hO.rd, rfl⟩
    exact (h1.still ((Only.refl _ _).alloc _)).keep hG.only (fun k hk e => by
      have e1 : w.heap.size = k := hk
      have e2 : w.heap.size + 1 = k := e
      omega)
  refine ⟨⟨⟨by rw [List.flatMap_append]; simpa using hG.own.rd, by rw [List.length_append, hA.row.2]; exact hN⟩, fun s hs => ?_⟩, hS⟩
  rcases List.mem_append.1 hs with hs | hs
  · rw [List.mem_singleton] at hs
    subst hs
    exact ⟨⟨.inl rfl, by show l.length ≤ 100; rw [hR.2]; omega, hl, Nat.two_pow_pos m⟩, rfl, ⟨hR.still hS, hkey⟩, .inl rfl⟩
  · obtain ⟨g1, g2, g3, g4⟩ := hA.ok s hs
    exact ⟨g1, g2, g3.still hS, g4⟩
theorem runL_asks (S1 : List Stp) : ∀ q : List Stp, (∀ s ∈ q, s.op ≠ 1) → runL (S1 ++ q) = runL S1 := by
  have key : ∀ (n : Nat) (q : List Stp), q.length = n → (∀ s ∈ q, s.op ≠ 1) → runL (S1 ++ q) = runL S1 := by
    intro n
    induction n with
    | zero => intro q hq _; rw [List.eq_nil_of_length_eq_zero hq, List.append_nil]
    | succ n ih =>
      intro q hq h
      obtain ⟨r, y, rfl⟩ : ∃ r y, q = r ++ [y] := ⟨q.dropLast, q.getLast (by intro e; simp [e] at hq), (List.dropLast_concat_getLast _).symm⟩
      rw [← List.append_assoc, runL_snoc, ih r (by simp at hq; omega) (fun s hs => h s (List.mem_append_left _ hs))]
      unfold nxt
      rw [if_neg (h y (List.mem_append_right _ (List.mem_singleton.2 rfl)))]
  exact fun q h => key _ q rfl h
/-- what the last answers say -/
def TellP (P : List It) (S : List Stp) (A : List An) : Prop := A.length = S.length ∧ ∀ (i : Nat) (s : Stp) (x : An), S[i]? = some s → A[i]? = some x → Says P s x
theorem told_of {S1 S2 : List Stp} {As : List An} {P : List It} (h : RanT (S1 ++ S2) As) (ho : ∀ s ∈ S2, s.op ≠ 1) (hP : runL S1 = P) : TellP P S2 (As.drop S1.length) := by
  obtain ⟨h1, h2⟩ := h
  refine ⟨by rw [List.length_drop, h1, List.length_append]; omega, fun i s x hs hx => ?_⟩
  rw [List.getElem?_drop] at hx
  have hs' : (S1 ++ S2)[S1.length + i]? = some s := by rw [List.getElem?_append_right (by omega), show S1.length + i - S1.length = i by omega]; exact hs
  have h3 := h2 _ s x hs' hx (ho s (List.mem_of_getElem? hs))
  rw [List.take_append, List.take_of_length_le (by omega), show S1.length + i - S1.length = i by omega, runL_asks S1 _ (fun t ht => ho t (List.mem_of_mem_take ht)), hP] at h3
  exact h3
theorem told_same {P : List It} {S : List Stp} {A B : List An} (ha : TellP P S A) (hb : TellP P S B) : ∀ (i : Nat) (x y : An), A[i]? = some x → B[i]? = some y → SameAn x y := fun i x y hx hy => by
  have hi : i < A.length := (List.getElem?_eq_some_iff.1 hx).1
  obtain ⟨s, hs⟩ : ∃ s, S[i]? = some s := ⟨S[i]'(by rw [← ha.1]; exact hi), List.getElem?_eq_getElem _⟩
  obtain ⟨x1, x2, x3⟩ := ha.2 i s x hs hx
  obtain ⟨y1, y2, y3⟩ := hb.2 i s y hs hy
  exact ⟨x1.trans y1.symm, x2.trans y2.symm, x3.trans y3.symm⟩
/-- the row of the last answers -/
theorem RS.last {w : World} {b off N cap n : Nat} {As : List An} (h : RS anc 3 w (some ⟨b, off, none⟩) N cap As) (hn : n ≤ N) : RS anc 3 w (some ⟨b, off + (N - n) * 3, none⟩) n (cap - (N - n)) (As.drop (N - n)) := by
  have h1 := h.1.drop (k := N - n) (by omega)
  rw [show N - (N - n) = n by omega] at h1
  exact ⟨by rw [flatMap_drop anc_len]; exact h1, by rw [List.length_drop, h.2]; omega⟩
end Go.Proofs.YtcjifjfcjimefaaDoor.xf

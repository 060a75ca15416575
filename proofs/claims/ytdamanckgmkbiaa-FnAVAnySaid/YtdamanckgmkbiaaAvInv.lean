/-
  AVL trees: a script's run; its state in memory.
-/
import Derived.Test.YtdamanckgmkbiaaAvSaid
namespace Go.Proofs.Ytdamanckgmkbiaa.av
open Go.RowKit Go.Proofs.Ytdamanckgmkbiaa.base Go.Proofs.Ytdamanckgmkbiaa.heap Go.Proofs.Ytdamanckgmkbiaa.rows
open Tre
set_option linter.unusedVariables false
def delL (L : List (Int × Int)) (x : Int) : List (Int × Int) := L.filter (fun y => y.1 != x)
def delAll (L : List (Int × Int)) : List (Int × Int) → List (Int × Int)
  | [] => L
  | e :: E => delAll (delL L e.1) E
def saidDel (L : List (Int × Int)) : List (Int × Int) → List (Int × Option Int)
  | [] => []
  | e :: E => (e.1, findL L e.1) :: saidDel (delL L e.1) E
theorem delAll_len (L : List (Int × Int)) (E : List (Int × Int)) : (delAll L E).length ≤ L.length := by
  induction E generalizing L with
  | nil => exact Nat.le_refl _
  | cons a E ih => exact Nat.le_trans (ih _) (List.length_filter_le _ _)
/-- a step -/
structure Stp where
  op : Int
  fr : Nat
  a : Option Addr
  m : Nat
  cap : Nat
  E : List (Int × Int)
def stc (s : Stp) : List Value := [.int .i64 s.op, .int .i64 (s.fr : Int), .slice s.a s.m s.cap]
theorem stc_len (s : Stp) : (stc s).length = 3 := rfl
/-- an answer -/
structure An where
  m : Nat
  Y : List (Int × Option Int)
structure St where
  Ls : List (List (Int × Int))
  As : List An
  lv : Nat
def St.of (t : St) (s : Stp) : List (Int × Int) := t.Ls.getD (s.fr % t.Ls.length) []
def step (t : St) (s : Stp) : St :=
  if s.op = 1 then ⟨t.Ls ++ [putAll (t.of s) s.E], t.As ++ [⟨(putAll (t.of s) s.E).length, saidPut (t.of s) s.E⟩], t.lv⟩
  else if s.op = 2 then ⟨t.Ls ++ [delAll (t.of s) s.E], t.As ++ [⟨(delAll (t.of s) s.E).length, saidDel (t.of s) s.E⟩], t.Ls.length⟩
  else ⟨t.Ls, t.As ++ [⟨(t.of s).length, saidGet (t.of s) s.E⟩], t.lv⟩
def run (S : List Stp) : St := S.foldl step ⟨[[]], [], 0⟩
theorem run_snoc (S : List Stp) (s : Stp) : run (S ++ [s]) = step (run S) s := by
  unfold run
  rw [List.foldl_append]
  rfl
theorem run_next (S : List Stp) (j : Nat) (s : Stp) (h : S[j]? = some s) : run (S.take (j + 1)) = step (run (S.take j)) s := by
  rw [take_snoc S j s h, run_snoc]
/-- a script that is borne -/
structure Fine (S : List Stp) : Prop where
  n : S.length ≤ 1000
  op : ∀ s ∈ S, s.op = 1 ∨ s.op = 3
  m : ∀ s ∈ S, 0 < s.m ∧ s.m ≤ 60
  l : ∀ s ∈ S, s.E.length = s.m
  fr : ∀ s ∈ S, s.fr < 1000000
  live : ∀ j s, S[j]? = some s → (run (S.take j)).lv ≤ s.fr % (run (S.take j)).Ls.length
theorem of_len {t : St} {k : Nat} (h : ∀ L ∈ t.Ls, L.length ≤ k) (s : Stp) : (t.of s).length ≤ k := by
  unfold St.of
  rw [List.getD_eq_getElem?_getD]
  cases hg : t.Ls[s.fr % t.Ls.length]? with
  | none => exact Nat.zero_le _
  | some L => exact h L (List.mem_of_getElem? hg)
theorem run_len {S : List Stp} (hS : Fine S) : ∀ j, j ≤ S.length → (∀ L ∈ (run (S.take j)).Ls, L.length ≤ 60 * j) ∧ 0 < (run (S.take j)).Ls.length ∧ (run (S.take j)).Ls.length ≤ j + 1 ∧ (run (S.take j)).As.length = j
  | 0, _ => by
    rw [List.take_zero]
    refine ⟨fun L hL => ?_, by decide, by decide, rfl⟩
    have e : L = [] := List.mem_singleton.1 hL
    rw [e]; exact Nat.zero_le _
  | j + 1, hj => by
    obtain ⟨h1, h2, h3, h4⟩ := run_len hS j (by omega)
    have hs : S[j]? = some (S[j]'(by omega)) := List.getElem?_eq_getElem _
    have hm := hS.m _ (List.mem_of_getElem? hs)
    have hl := hS.l _ (List.mem_of_getElem? hs)
    have ho := of_len h1 (S[j]'(by omega))
    rw [run_next S j _ hs]
    unfold step
    split
    · refine ⟨fun L hL => ?_, by simp, by simp; omega, by simp [h4]⟩
      rcases List.mem_append.1 hL with hL | hL
      · have := h1 L hL; omega
      · rw [List.mem_singleton.1 hL]
        have := putAll_len ((run (S.take j)).of (S[j]'(by omega))) (S[j]'(by omega)).E
        omega
    · split
      · refine ⟨fun L hL => ?_, by simp, by simp; omega, by simp [h4]⟩
        rcases List.mem_append.1 hL with hL | hL
        · have := h1 L hL; omega
        · rw [List.mem_singleton.1 hL]
          have := delAll_len ((run (S.take j)).of (S[j]'(by omega))) (S[j]'(by omega)).E
          omega
      · exact ⟨fun L hL => by have := h1 L hL; omega, h2, Nat.le_succ_of_le h3, by simp [h4]⟩
/-- an answer in memory -/
structure Anw where
  m : Nat
  sa : Option Addr
  n : Nat
  sc : Nat
  ha : Option Addr
  hc : Nat
  Y : List (Int × Option Int)
def anc (x : Anw) : List Value := [.int .i64 (x.m : Int), .slice x.sa x.n x.sc, .slice x.ha x.n x.hc]
def ptrc (g : Nat) : List Value := [.pointer (at0 g)]
structure AnwOk (w wr : World) (x : Anw) : Prop where
  s : New 38 entc 2 w wr x.sa x.n x.sc (x.Y.map kv)
  h : New 4 boolc 1 w wr x.ha x.n x.hc (x.Y.map hasv)
  n : x.n = x.Y.length
def Anw.an (x : Anw) : An := ⟨x.m, x.Y⟩
theorem slAS : SliceOf Try.prog 25 32 3 56 := SliceOf.mk (z := .agg #[.int .i64 0, .slice none 0 0, .slice none 0 0]) Try.underlying25 (by kernel_rfl) rfl
theorem slIm : SliceOf Try.prog 51 57 1 8 := SliceOf.mk (z := .pointer none) Try.underlying51 (by kernel_rfl) rfl
structure Inv (w wr : World) (la : Option Addr) (lc : Nat) (oa : Option Addr) (oc : Nat) (gs : List Nat) (ws : List Anw) (Ls : List (List (Int × Int))) (As : List An) (lv : Nat) : Prop where
  l : New 57 ptrc 1 w wr la gs.length lc gs
  o : New 32 anc 3 w wr oa ws.length oc ws
  ok : ∀ x ∈ ws, AnwOk w wr x
  ans : ws.map Anw.an = As
  gl : gs.length = Ls.length
  tr : ∀ i g L, lv ≤ i → gs[i]? = some g → Ls[i]? = some L → Tn 0 wr g L
section
variable {w wr w3 w5 : World} {la la2 oa oa2 : Option Addr} {lc lc2 oc oc2 lv : Nat} {gs : List Nat} {ws : List Anw} {Ls : List (List (Int × Int))} {As : List An}
theorem New.keepT {α : Type} {e : Nat} {c : α → List Value} {K : Nat} {a : Option Addr} {n cap : Nat} {l : List α} {S : Nat → Prop} (h : New e c K w wr a n cap l) (ho : Only S wr w3) (hn : ∀ k cs, S k → wr.heap[k]? ≠ some (.cells cs e (0, 0))) (hw : ∀ k, S k → w.heap.size ≤ k) : New e c K w w3 a n cap l :=
  ⟨h.row.keep ho (fun k hk hs => by obtain ⟨cs, hc⟩ := own_type h.row hk; exact hn k cs hs hc), new_only h.same ho hw, h.new⟩
theorem AnwOk.keepT {x : Anw} {S : Nat → Prop} (h : AnwOk w wr x) (ho : Only S wr w3) (hn : ∀ k cs, S k → wr.heap[k]? ≠ some (.cells cs 38 (0, 0)) ∧ wr.heap[k]? ≠ some (.cells cs 4 (0, 0))) (hw : ∀ k, S k → w.heap.size ≤ k) : AnwOk w w3 x :=
  ⟨h.s.keepT ho (fun k cs hs => (hn k cs hs).1) hw, h.h.keepT ho (fun k cs hs => (hn k cs hs).2) hw, h.n⟩
theorem AnwOk.still {x : Anw} (h : AnwOk w wr x) (ho : Same wr w3) : AnwOk w w3 x := ⟨h.s.still ho, h.h.still ho, h.n⟩
theorem AnwOk.base {x : Anw} {w1 : World} (h : AnwOk w1 wr x) (ho : Same w w1) : AnwOk w wr x := ⟨h.s.base ho, h.h.base ho, h.n⟩
theorem Inv.still (h : Inv w wr la lc oa oc gs ws Ls As lv) (ho : Same wr w3) : Inv w w3 la lc oa oc gs ws Ls As lv :=
  ⟨h.l.still ho, h.o.still ho, fun x hx => (h.ok x hx).still ho, h.ans, h.gl, fun i g L hi hg hL => (h.tr i g L hi hg hL).still ho⟩
theorem row_ne {α : Type} {e e2 : Nat} {c : α → List Value} {K : Nat} {a : Option Addr} {n cap : Nat} {l : List α} (h : New e c K w wr a n cap l) (hne : e ≠ e2) : ∀ k cs, At a k → wr.heap[k]? ≠ some (.cells cs e2 (0, 0)) := fun k cs hk he => by
  obtain ⟨cs', hc⟩ := own_type h.row hk
  exact clash hc he hne
theorem row_ty {α : Type} {e : Nat} {c : α → List Value} {K : Nat} {a : Option Addr} {n cap : Nat} {l : List α} (h : New e c K w wr a n cap l) (h1 : e ≠ 80) (h2 : e ≠ 82) : ∀ y, Ty wr y → ¬ At a y := fun y hy hk => by
  obtain ⟨cs', hc⟩ := own_type h.row hk
  obtain ⟨cs, t, h3, h4⟩ := hy
  rcases h4 with rfl | rfl
  · exact clash hc h3 h1
  · exact clash hc h3 h2
theorem Inv.pushL {g2 : Nat} {L2 : List (Int × Int)} (h : Inv w wr la lc oa oc gs ws Ls As lv) (ho : Same wr w3) (hG : Grew 57 1 w3 w5 la la2 1 (gs.length + 1) lc lc2 (gs.flatMap ptrc ++ ptrc g2)) (ht : Tn 0 w3 g2 L2) : Inv w w5 la2 lc2 oa oc (gs ++ [g2]) ws (Ls ++ [L2]) As lv := by
  have h3 := h.still ho
  have hw := h3.l.new
  have hl : (gs ++ [g2]).length = gs.length + 1 := by simp
  refine ⟨?_, h3.o.keepT hG.only (row_ne h3.l (by decide)) hw, fun x hx => (h3.ok x hx).keepT hG.only (fun k cs hk => ⟨row_ne h3.l (by decide) k cs hk, row_ne h3.l (by decide) k cs hk⟩) hw, h.ans, by simp [h.gl], fun i g L hi hg hL => ?_⟩
  · rw [hl]
    exact h3.l.step (Only.refl _ _) hG
  · have hk : ∀ {g L}, Tn 0 w3 g L → Tn 0 w5 g L := fun ht => ht.keep hG.only (row_ty h3.l (by decide) (by decide))
    rcases Nat.lt_trichotomy i gs.length with hi2 | hi2 | hi2
    · rw [List.getElem?_append_left hi2] at hg
      rw [List.getElem?_append_left (by rw [← h.gl]; exact hi2)] at hL
      exact hk (h3.tr i g L hi hg hL)
    · rw [hi2, List.getElem?_concat_length] at hg
      rw [hi2, h.gl, List.getElem?_concat_length] at hL
      cases hg
      cases hL
      exact hk ht
    · rw [List.getElem?_eq_none (by rw [hl]; omega)] at hg
      cases hg
theorem Inv.pushO {x : Anw} (h : Inv w wr la lc oa oc gs ws Ls As lv) (ho : Same wr w3) (hG : Grew 32 3 w3 w5 oa oa2 1 (ws.length + 1) oc oc2 (ws.flatMap anc ++ anc x)) (hx : AnwOk w w3 x) : Inv w w5 la lc oa2 oc2 gs (ws ++ [x]) Ls (As ++ [x.an]) lv := by
  have h3 := h.still ho
  have hw := h3.o.new
  have hl : (ws ++ [x]).length = ws.length + 1 := by simp
  refine ⟨h3.l.keepT hG.only (row_ne h3.o (by decide)) hw, ?_, fun y hy => ?_, by simp [h.ans], h.gl, fun i g L hi hg hL => (h3.tr i g L hi hg hL).keep hG.only (row_ty h3.o (by decide) (by decide))⟩
  · rw [hl]
    exact h3.o.step (Only.refl _ _) hG
  · have hk : AnwOk w w3 y := by
      rcases List.mem_append.1 hy with hy | hy
      · exact h3.ok y hy
      · rw [List.mem_singleton.1 hy]; exact hx
    exact hk.keepT hG.only (fun k cs hk => ⟨row_ne h3.o (by decide) k cs hk, row_ne h3.o (by decide) k cs hk⟩) hw
end
end Go.Proofs.Ytdamanckgmkbiaa.av

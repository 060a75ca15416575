/-
  Two rows that grow side by side: the places and the words of a sparse array that is made.
-/
import Derived.Test.YtacjkbljokjdkaaGreatBaSpAsk
import Derived.Test.YtacjkbljokjdkaaGreatBaNandM
namespace Go.Proofs.YtacjkbljokjdkaaGreat.ba
open Go.RowKit Go.Proofs.YtacjkbljokjdkaaGreat.base Go.Proofs.YtacjkbljokjdkaaGreat.heap Go.Proofs.YtacjkbljokjdkaaGreat.rows Go.Proofs.YtacjkbljokjdkaaGreat.bit Go.Proofs.YtacjkbljokjdkaaGreat.bs
set_option linter.unusedVariables false
/-- in the course of making -/
structure Prs (w wr : World) (ab : Option Addr) (cb : Nat) (ai : Option Addr) (ci : Nat) (R : List (Nat × Nat)) : Prop where
  same : Same w wr
  blk : Own 74 1 wr ab R.length cb (U (R.map (·.2)))
  idx : Own 34 1 wr ai R.length ci (U (R.map (·.1)))
  new : ∀ k, At ab k ∨ At ai k → w.heap.size ≤ k
  bi : ∀ k, At ab k → ¬ At ai k
section
variable {w wr w2 w3 : World} {ab ai ab2 ai2 : Option Addr} {cb ci cb2 ci2 : Nat} {R : List (Nat × Nat)}
theorem Prs.still (h : Prs w wr ab cb ai ci R) (hs : Same wr w2) : Prs w w2 ab cb ai ci R :=
  ⟨Same.trans h.same hs, h.blk.keep hs (fun _ _ => id), h.idx.keep hs (fun _ _ => id), h.new, h.bi⟩
theorem Prs.mid (h : Prs w wr ab cb ai ci R) {o : Obj} {X : List (Nat × Nat)} {m : Nat} (hG1 : Grew 34 1 (wr.alloc o) w2 ai ai2 m (R.length + m) ci ci2 (U (R.map (·.1)) ++ U (X.map (·.1)))) : Own 74 1 w2 ab R.length cb (U (R.map (·.2))) ∧ Same w w2 :=
  ⟨(h.blk.keep ((Only.refl (fun _ => False) wr).alloc o) (fun _ _ => id)).keep hG1.only (fun k hk => h.bi k hk), new_only (Same.trans h.same ((Only.refl _ _).alloc o)) hG1.only (fun k hk => h.new k (.inr hk))⟩
theorem Prs.push (h : Prs w wr ab cb ai ci R) {o1 o2 : Obj} {X : List (Nat × Nat)} {m : Nat} (hm : X.length = m) (hG1 : Grew 34 1 (wr.alloc o1) w2 ai ai2 m (R.length + m) ci ci2 (U (R.map (·.1)) ++ U (X.map (·.1))))
    (hG2 : Grew 74 1 (w2.alloc o2) w3 ab ab2 m (R.length + m) cb cb2 (U (R.map (·.2)) ++ U (X.map (·.2)))) : Prs w w3 ab2 cb2 ai2 ci2 (R ++ X) := by
  obtain ⟨m1, m2⟩ := h.mid hG1
  have z1 := h.same.size
  have z2 := m2.size
  have f1 : ∀ k, At ai2 k → w.heap.size ≤ k := fun k hk => by
    rcases hG1.fresh k hk with h1 | h1
    · exact h.new k (.inr h1)
    · simp at h1; omega
  have f2 : ∀ k, At ab2 k → w.heap.size ≤ k := fun k hk => by
    rcases hG2.fresh k hk with h1 | h1
    · exact h.new k (.inl h1)
    · simp at h1; omega
  have l2 := hG1.own.lt
  have lb := h.blk.lt
  have dis : ∀ k, At ab k → ¬ At ai2 k := fun k hk e => by
    rcases hG1.fresh k e with h1 | h1
    · exact h.bi k hk h1
    · have := lb k hk; simp at h1; omega
  have hi := (hG1.own.keep ((Only.refl (fun _ => False) w2).alloc o2) (fun _ _ => id)).keep hG2.only (fun k hk h2 => dis k h2 hk)
  have e1 : U (R.map (·.1)) ++ U (X.map (·.1)) = U ((R ++ X).map (·.1)) := by simp [U]
  have e2 : U (R.map (·.2)) ++ U (X.map (·.2)) = U ((R ++ X).map (·.2)) := by simp [U]
  have e3 : R.length + m = (R ++ X).length := by rw [List.length_append, hm]
  rw [e1, e3] at hi
  have hb := hG2.own
  rw [e2, e3] at hb
  refine ⟨new_only (Same.trans m2 ((Only.refl _ _).alloc o2)) hG2.only (fun k hk => h.new k (.inl hk)), hb, hi, fun k hk => hk.elim (f2 k) (f1 k), fun k hk e => ?_⟩
  rcases hG2.fresh k hk with h1 | h1
  · exact dis k h1 e
  · have := l2 k e; simp at h1; omega
/-- the array behind its interface type -/
theorem Prs.arr (h : Prs w wr ab cb ai ci R) (hg : Good R) (hl : R.length ≤ 1000000) {l : List Nat} (hr : Rep (wd R) l) :
    NewA ⟨false, 0, l⟩ w (.returned (.iface 82 (.pointer (some ⟨wr.heap.size, 0, none⟩)))) (wr.alloc (.cells #[.slice ab R.length cb, .slice ai R.length ci] 94)) := by
  have hA := (Only.refl (fun _ => False) wr).alloc (.cells #[.slice ab R.length cb, .slice ai R.length ci] 94)
  have lb := h.blk.lt
  have li := h.idx.lt
  refine ⟨_, _, _, rfl, .sparse wr.heap.size ab cb ai ci R l ⟨heap_alloc_new _ _, h.blk.keep hA (fun _ _ => id), h.idx.keep hA (fun _ _ => id), hg.1, hg.2, fun e => by have := lb _ e; omega, fun e => by have := li _ e; omega, h.bi, hl⟩ hr, Same.trans h.same hA, ?_⟩
  rintro k (rfl | hk | hk)
  · exact h.same.size
  · exact h.new k (.inl hk)
  · exact h.new k (.inr hk)
end
/-- both rows are new and empty -/
theorem prs_new (w : World) (c : Nat) (hc : c ≤ 1000000) : Prs w ((w.alloc (.cells (madeCells #[.int .u64 0] c) 34)).alloc (.cells (madeCells #[.int .u64 0] c) 74)) (some ⟨w.heap.size + 1, 0, none⟩) c (some ⟨w.heap.size, 0, none⟩) c [] := by
  refine ⟨((Only.refl _ _).alloc _).alloc _, ?_, ?_, ?_, ?_⟩
  · have := Own.of_block (e := 74) (size := 1) (heap_alloc_new' (w.alloc (.cells (madeCells #[.int .u64 0] c) 34)) (.cells (madeCells #[.int .u64 0] c) 74) (w.heap.size + 1) (by simp)) 0 c (Nat.zero_le _) (by unfold maxLen; omega) (by simp [madeCells]) (by simp)
    simpa [U] using this
  · have := Own.of_block (e := 34) (size := 1) (new_old w (.cells (madeCells #[.int .u64 0] c) 34) (.cells (madeCells #[.int .u64 0] c) 74)) 0 c (Nat.zero_le _) (by unfold maxLen; omega) (by simp [madeCells]) (by simp)
    simpa [U] using this
  · rintro k (h | h)
    · have : w.heap.size + 1 = k := h
      omega
    · have : w.heap.size = k := h
      omega
  · intro k h1 h2
    have : w.heap.size + 1 = k := h1
    have : w.heap.size = k := h2
    omega
end Go.Proofs.YtacjkbljokjdkaaGreat.ba

/-
  The law's steps: one for each entry.
-/
import Derived.Test.YtcjifjfcjimefaaDoorZXfItems
import Derived.Test.YtcjifjfcjimefaaDoorMB
namespace Go.Proofs.YtcjifjfcjimefaaDoor.xf
open Go.RowKit Go.Proofs.YtcjifjfcjimefaaDoor.base Go.Proofs.YtcjifjfcjimefaaDoor.heap Go.Proofs.YtcjifjfcjimefaaDoor.rows Go.Proofs.YtcjifjfcjimefaaDoor.mapn
set_option linter.unusedVariables false

theorem RS.one {w : World} {b off n cap : Nat} {l : List It} (h : RS itc 2 w (some ⟨b, off, none⟩) n cap l) {i : Nat} {y : It} (hy : l[i]? = some y) : RS itc 2 w (some ⟨b, off + i * 2, none⟩) 1 (cap - i) [y] := by
  have hi : i < l.length := (List.getElem?_eq_some_iff.1 hy).1
  have hl := h.2
  have bd := h.bound
  have h1 := (h.1.drop (k := i) (by omega)).take (k := 1) (c := cap - i) (by omega) (by omega) (Nat.le_refl _)
  rw [← flatMap_drop itc_len, ← flatMap_take itc_len] at h1
  have h2 : (l.drop i).take 1 = [y] := by
    rw [List.drop_eq_getElem_cons hi]
    have : l[i] = y := by
      have := (List.getElem?_eq_some_iff.1 hy).2
      exact this
    simp [this]
  rw [h2] at h1
  exact ⟨h1, rfl⟩
/-- steps that insert entries, each with a row of its own for the keys -/
structure Ones (w wr : World) (l : List It) (oa : Option Addr) (n cap : Nat) (S : List Stp) : Prop where
  row : New 34 stc 3 w wr oa n cap S
  stp : ∀ (i : Nat) (s : Stp), S[i]? = some s → s.op = 1 ∧ (∃ y, l[i]? = some y ∧ s.I = [y]) ∧ s.K = [0] ∧ RS itc 2 w s.ia s.im s.ic s.I
  key : ∀ (i : Nat) (s : Stp), S[i]? = some s → RL uv wr s.ka s.km s.kc [0] ∧ ∀ k, At s.ka k → w.heap.size ≤ k ∧ k < wr.heap.size ∧ ¬ At oa k
theorem Ones.step {w wr w8 : World} {l : List It} {oa oa2 : Option Addr} {b off n cap j oc oc2 : Nat} {S : List Stp} {y : It} {o : Obj} (h : Ones w wr l oa j oc S) (hR : RS itc 2 w (some ⟨b, off, none⟩) n cap l) (hy : l[j]? = some y)
    (hG : Grew 34 3 ((wr.alloc (.cells #[.int .u64 0] 25)).alloc o) w8 oa oa2 1 (j + 1) oc oc2 (S.flatMap stc ++ stc ⟨1, some ⟨b, off + j * 2, none⟩, 1, cap - j, [y], some ⟨wr.heap.size, 0, none⟩, 1, 1, [0]⟩)) :
    Ones w w8 l oa2 (j + 1) oc2 (S ++ [⟨1, some ⟨b, off + j * 2, none⟩, 1, cap - j, [y], some ⟨wr.heap.size, 0, none⟩, 1, 1, [0]⟩]) := by
  have hs1 : Same wr (wr.alloc (.cells #[.int .u64 0] 25)) := (Only.refl _ _).alloc _
  have hs2 : Same (wr.alloc (.cells #[.int .u64 0] 25)) ((wr.alloc (.cells #[.int .u64 0] 25)).alloc o) := (Only.refl _ _).alloc _
  have z0 := h.row.same.size
  have z1 : (wr.alloc (.cells #[.int .u64 0] 25)).heap.size = wr.heap.size + 1 := by simp
  have z2 := hs2.size
  have z3 := hG.only.size
  have hln : S.length = j := h.row.row.2
  have hoa : ∀ k, At oa k → k < wr.heap.size := h.row.row.1.lt
  have hfr : ∀ k, At oa2 k → At oa k ∨ wr.heap.size + 1 ≤ k := fun k hk => (hG.fresh k hk).imp id (fun h' => by omega)
  have hcase : ∀ (i : Nat) (s : Stp), (S ++ [⟨1, some ⟨b, off + j * 2, none⟩, 1, cap - j, [y], some ⟨wr.heap.size, 0, none⟩, 1, 1, [0]⟩])[i]? = some s → S[i]? = some s ∨ (i = j ∧ s = ⟨1, some ⟨b, off + j * 2, none⟩, 1, cap - j, [y], some ⟨wr.heap.size, 0, none⟩, 1, 1, [0]⟩) := fun i s hi => by
    rcases Nat.lt_trichotomy i j with hj | hj | hj
    · rw [List.getElem?_append_left (by omega)] at hi
      exact .inl hi
    · subst hj
      rw [List.getElem?_append_right (by omega), hln, Nat.sub_self] at hi
      simp at hi
      exact .inr ⟨rfl, hi.symm⟩
    · rw [List.getElem?_eq_none (by simp; omega)] at hi
      cases hi
  refine ⟨h.row.step (hs1.trans hs2) hG, fun i s hi => ?_, fun i s hi => ?_⟩
  · rcases hcase i s hi with hi | ⟨rfl, rfl⟩
    · exact h.stp i s hi
    · exact ⟨rfl, ⟨y, hy, rfl⟩, rfl, RS.one hR hy⟩
  · rcases hcase i s hi with hi | ⟨rfl, rfl⟩
    · obtain ⟨g1, g2⟩ := h.key i s hi
      refine ⟨((g1.still hs1).still hs2).keep hG.only (fun k hk => (g2 k hk).2.2), fun k hk => ⟨(g2 k hk).1, by have := (g2 k hk).2.1; omega, fun hk' => ?_⟩⟩
      rcases hfr k hk' with h' | h'
      · exact (g2 k hk).2.2 h'
      · have := (g2 k hk).2.1; omega
    · have hO := Own.made 25 1 wr #[.int .u64 0] 1 1 (Nat.le_refl _) (by unfold maxLen; omega) rfl (by simp [Value.oneCell'])
      have hRL : RL uv (wr.alloc (.cells #[.int .u64 0] 25)) (some ⟨wr.heap.size, 0, none⟩) 1 1 [0] := ⟨hO.rd, rfl⟩
      refine ⟨(hRL.still hs2).keep hG.only (fun k hk ha => ?_), fun k hk => ⟨?_, ?_, fun hk' => ?_⟩⟩
      · have e : wr.heap.size = k := hk
        have := hoa k ha; omega
      · have e : wr.heap.size = k := hk
        omega
      · have e : wr.heap.size = k := hk
        omega
      · have e : wr.heap.size = k := hk
        rcases hfr k hk' with h' | h'
        · have := hoa k h'; omega
        · omega
theorem slSt : SliceOf Tryd.prog 27 34 3 56 := SliceOf.mk (z := .agg #[.int .i64 0, .slice none 0 0, .slice none 0 0]) Tryd.underlying27 (by kernel_rfl) rfl
set_option maxRecDepth 100000 in
set_option maxHeartbeats 1600000 in
theorem trOnes_of (w : World) (a : Option Addr) (n cap : Nat) (l : List It) (hR : RS itc 2 w a n cap l) (hn : n ≤ 60) : Calls Tryd.prog 11 #[.slice a n cap] w (fun e w' => ∃ a' c' S, e = .returned (.slice a' n c') ∧ Ones w w' l a' n c' S) := by
  have HR := Lib.hid hR
  have bd := hR.bound
  have hln := hR.2
  have HN0 : Hid (Ones w w l none 0 0 []) := Lib.hid ⟨New.nil _ _ _ _, fun i s h => by simp at h, fun i s h => by simp at h⟩
  clear hR
  go_enter Tryd.func11, Tryd.ntmps11
  go_wp2_with fail
  go_loopw [3, 4] (fun o i wr => ∃ (j : Nat) (oa : Option Addr) (oc : Nat) (S : List Stp), o = .slice oa j oc ∧ i = .int .i64 (j : Int) ∧ j ≤ n ∧ Hid (Ones w wr l oa j oc S)) (fun _ i _ => n - (intOf i).toNat)
  case atStart => exact ⟨0, none, 0, [], rfl, rfl, Nat.zero_le _, HN0⟩
  case round =>
    clear HN0
    obtain ⟨j, oa, oc, S, rfl, rfl, hj, HG⟩ := hrel
    have hbo := HG.out.row.row.bound
    by_cases hlt : j < n
    · have hlt' : (j : Int) < (n : Int) := by omega
      obtain ⟨y, hy⟩ := HR.out.get hlt
      obtain ⟨b, off, ha, hb, hc⟩ := (HR.out.still HG.out.row.same).at itc_len (by omega)
      have HY := Lib.hid hy
      subst ha
      clear hc hy
      go_wp2_with (at_builtin; refine wpList_append (j + 1) (S.flatMap stc ++ stc ⟨1, some ⟨b, off + j * 2, none⟩, 1, cap - j, [y], some ⟨wr.heap.size, 0, none⟩, 1, 1, [0]⟩) rfl _ _ _ _ rfl slSt rfl (HG.out.row.row.1.keep (S := fun _ => False) (by repeat (first | exact Only.refl _ _ | apply Only.alloc | apply Only.drew)) (fun _ _ => id)) rfl (Src.row (size := 3) (cs := #[.int .i64 1, .slice (some ⟨b, off + j * 2, none⟩) 1 (cap - j), .slice (some ⟨wr.heap.size, 0, none⟩) 1 1]) (t := 34) (fr := (0, 0)) Tryd.underlying27 (by exact heap_alloc_new' _ _ _ (by simp)) 1 1 rfl (by simp [Value.oneCell'])) rfl rfl (by unfold maxLen; omega) (by omega) ?_)
      intro oa2 oc2 w8 hG
      have HG2 := Lib.hid (HG.out.step HR.out HY.out hG)
      clear hG HG
      go_wp2_with fail
      go_roundw
      case rel => exact ⟨j + 1, oa2, oc2, _, rfl, by go_num, by omega, HG2⟩
      case measure => simp [intOf]; omega
    · have hlt' : ¬ (j : Int) < (n : Int) := by omega
      obtain rfl : j = n := by omega
      go_wp2_with fail
      go_ret
      exact ⟨oa, oc, rfl, S, HG.out⟩
end Go.Proofs.YtcjifjfcjimefaaDoor.xf

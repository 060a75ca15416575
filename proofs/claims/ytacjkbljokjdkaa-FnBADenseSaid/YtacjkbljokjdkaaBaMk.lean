/-
  New arrays: NewBitArray, NewSparseBitArray, and their steps.
-/
import Derived.Test.YtacjkbljokjdkaaBaTwo
namespace Go.Proofs.Ytacjkbljokjdkaa.ba
open Go.RowKit Go.Proofs.Ytacjkbljokjdkaa.base Go.Proofs.Ytacjkbljokjdkaa.heap Go.Proofs.Ytacjkbljokjdkaa.rows Go.Proofs.Ytacjkbljokjdkaa.bit Go.Proofs.Ytacjkbljokjdkaa.bs
set_option linter.unusedVariables false

theorem wf_zeros (n j : Nat) : wf (List.replicate n 0) j = 0 := by
  unfold wf
  rw [List.getD_eq_getElem?_getD, List.getElem?_replicate]
  split <;> rfl
theorem rep_zeros (n : Nat) : Rep (wf (List.replicate n 0)) [] := ⟨Asc.nil, fun k => by rw [wf_zeros]; simp⟩
theorem nob_zeros (n : Nat) : NoB (List.replicate n 0) := fun k => by
  unfold bit
  rw [show (List.replicate n 0).getD (k / 64) 0 = 0 from wf_zeros n _]
  simp
theorem NewD.arr {n : Nat} {w : World} {e : Ending} {w' : World} (h : NewD (List.replicate n 0) 0 0 false w e w') : ∃ p F, e = .returned (.pointer (some ⟨p, 0, none⟩)) ∧ Arr w' (.iface 85 (.pointer (some ⟨p, 0, none⟩))) ⟨true, n, []⟩ F ∧ Same w w' ∧ ∀ k, F k → w.heap.size ≤ k := by
  obtain ⟨p, a, c, rfl, hd, hs, hf⟩ := h
  have := Arr.ofFin (w := w) hd (.inl ⟨nob_zeros n, rfl, rfl, rfl⟩) (rep_zeros n)
  rw [List.length_replicate] at this
  exact ⟨p, _, rfl, this, hs, hf⟩
set_option maxRecDepth 100000 in
set_option maxHeartbeats 1600000 in
theorem newBA (k : Nat) (hk : k ≤ 64000000) (ad : Addr) (ac : Nat) (w : World) (had : ad.spot = none) (hc : w.cell? ad = some (.bool false)) :
    Calls Try.prog 27 #[.int .u64 (k : Int), .slice (some ad) 1 ac] w (NewA ⟨true, (k + 63) / 64, []⟩ w) := by
  have HN := Lib.hid (newD0 k hk (some ad) 1 ac w (.inr ⟨rfl, ad, rfl, had, hc⟩))
  clear hc
  obtain ⟨n, hn⟩ : ∃ n, (k + 63) / 64 = n := ⟨_, rfl⟩
  rw [hn] at HN ⊢
  go_enter Try.func27, Try.ntmps27
  go_wp2_with fail
  refine HN.out.mono ?_
  intro e w1 hN
  obtain ⟨p, F, rfl, hA⟩ := hN.arr
  have HA := Lib.hid hA
  clear hA hN HN
  go_wp2_with fail
  go_ret
  exact ⟨_, _, F, rfl, HA.out⟩
set_option maxRecDepth 100000 in
set_option maxHeartbeats 1600000 in
theorem newSp (w : World) : Calls Try.prog 32 #[] w fun e w' => e = .returned (.pointer (some ⟨w.heap.size, 0, none⟩)) ∧ w' = w.alloc (.cells #[.slice none 0 0, .slice none 0 0] 99) := by
  go_enter Try.func32, Try.ntmps32
  go_wp2_with fail
  go_ret
  exact ⟨rfl, rfl⟩
theorem sp_new (w : World) : Arr (w.alloc (.cells #[.slice none 0 0, .slice none 0 0] 99)) (.iface 87 (.pointer (some ⟨w.heap.size, 0, none⟩))) ⟨false, 0, []⟩ (Fs w.heap.size none none) := by
  refine .sparse w.heap.size none 0 none 0 [] [] ⟨heap_alloc_new _ _, Own.nil _ _ _, Own.nil _ _ _, Asc.nil, by simp, id, id, fun _ h => h.elim, by simp⟩ ⟨Asc.nil, fun k => ?_⟩
  simp [wd]
set_option maxRecDepth 100000 in
set_option maxHeartbeats 1600000 in
theorem newSA (w : World) : Calls Try.prog 28 #[] w (NewA ⟨false, 0, []⟩ w) := by
  have HN := Lib.hid (newSp w)
  have HF : Hid (∀ w', w' = w.alloc (.cells #[.slice none 0 0, .slice none 0 0] 99) → NewA ⟨false, 0, []⟩ w (.returned (.iface 87 (.pointer (some ⟨w.heap.size, 0, none⟩)))) w') := Lib.hid (by
    rintro w' rfl
    refine ⟨_, _, _, rfl, sp_new w, (Only.refl _ _).alloc _, ?_⟩
    rintro k (rfl | h | h)
    · exact Nat.le_refl _
    · exact h.elim
    · exact h.elim)
  go_enter Try.func28, Try.ntmps28
  go_wp2_with fail
  refine HN.out.mono ?_
  rintro e w1 ⟨rfl, rfl⟩
  go_wp2_with fail
  go_ret
  exact HF.out _ rfl
theorem step_made3 {w : World} (A B C : Obj) : Same w (((w.alloc A).alloc B).alloc C) ∧ (((w.alloc A).alloc B).alloc C).heap[w.heap.size + 1]? = some B :=
  ⟨(((Only.refl _ _).alloc _).alloc _).alloc _, ((Only.refl (fun _ => False) _).alloc C).obj (heap_alloc_new' _ _ _ (by simp)) id⟩
section
variable {w : World} {q c : Nat} {a : Option Addr} {l : List It}
/-- what a step's two blocks leave of it -/
theorem more_end {w1 w2 w' : World} {d : BA} {r : Nat} {v v' : Value} {e : Ending} (HL : ∀ k, Fo q a l k → k < w.heap.size) (hS : Same w w1) (hr : w.heap.size ≤ r) (hr1 : r < w1.heap.size) (h : MoreP q a l d v w1 e w2) (ho : Only (fun k => k = r) w2 w') : MoreP q a l d v' w (.returned v') w' := by
  obtain ⟨_, a', c', y, hd, hst, ho2, hfa, hfy⟩ := h
  have hrF : ¬ Fo q a' (l ++ [y]) r := fun h => by
    rcases h with h | h | ⟨x, hx, h⟩
    · have := HL r (.inl h); omega
    · rcases hfa r h with h2 | h2
      · have := HL r (.inr (.inl h2)); omega
      · omega
    · rcases List.mem_append.1 hx with hx | hx
      · have := HL r (.inr (.inr ⟨x, hx, h⟩)); omega
      · rw [List.mem_singleton] at hx
        subst hx
        have := hfy r h; omega
  exact ⟨rfl, a', c', y, hd, hst.keep ho (fun k hk e => hrF (by rw [← e]; exact hk)), ((hS.mono (fun _ _ f => f.elim)).trans ho2 (fun _ _ h => h)).trans ho (fun k hk e => absurd hr (by omega)), fun k hk => (hfa k hk).imp id (fun h => Nat.le_trans hS.size h), fun k hk => Nat.le_trans hS.size (hfy k hk)⟩
set_option maxRecDepth 100000 in
set_option maxHeartbeats 1600000 in
theorem stepDense (h : Sta w q a c l) (hl : l.length ≤ 1000000) (k : Nat) (hk : k ≤ 64000000) :
    Calls Try.prog 24 #[.pointer (some ⟨q, 0, none⟩), stv { op := 1, k := k }] w (MoreP q a l ⟨true, (k + 63) / 64, []⟩ (.agg #[.bool false, .int .u64 0, .slice none 0 0, .bool false]) w) := by
  have HNB : Hid (∀ ad wx, ad.spot = none → wx.cell? ad = some (.bool false) → Calls Try.prog 27 #[.int .u64 (k : Int), .slice (some ad) 1 1] wx (NewA ⟨true, (k + 63) / 64, []⟩ wx)) := Lib.hid (fun ad wx h1 h2 => newBA k hk ad 1 wx h1 h2)
  have H := Lib.hid h
  have HL := Lib.hid h.lt
  obtain ⟨n, hn⟩ : ∃ n, (k + 63) / 64 = n := ⟨_, rfl⟩
  rw [hn] at HNB ⊢
  clear h
  unfold stv
  simp only
  go_enter_defers Try.func24, Try.ntmps24
  go_wp2_with (go_at_call 27; refine (HNB.out _ _ ?_ ?_).mono ?_)
  · rfl
  · exact block_cell (b := w.heap.size + 1 + 1) (heap_alloc_new' _ _ _ (by rw [World.size_alloc, World.size_alloc])) rfl
  rintro e w2 ⟨t, u, F, rfl, hA, hS2, hF2⟩
  obtain ⟨m1, m2⟩ := step_made3 (w := w) (.cells #[.int .i64 1, .int .i64 0, .int .i64 0, .int .u64 (k : Int), .int .i64 0, .bool false] 27) (.cells #[.bool false, .int .u64 0, .slice none 0 0, .bool false] 46) (.cells #[.bool false] 4)
  have HM := Lib.hid (madeN (H.out.still m1) hl (Only.refl _ _) hA hS2 hF2)
  have HSC := Lib.hid (And.intro m1 m2)
  have n2 := hS2.obj m2 id
  clear m1 m2 hA hF2 hS2
  go_wp2_with (go_at_call 26; refine HM.out.mono ?_)
  intro e w3 h3
  have hrq : ¬ (w.heap.size + 1 = q ∨ At a (w.heap.size + 1)) := fun h => by
    have := HL.out (w.heap.size + 1) (h.imp id .inl); omega
  have HO2 := h3.2
  obtain ⟨_, _, _, _, _, ho, _⟩ := HO2
  have N3 : Hid (w3.heap[w.heap.size + 1]? = _) := Lib.hid (ho.obj HSC.out.2 hrq)
  have HFIN : Hid (∀ w', Only (fun k => k = w.heap.size + 1) w3 w' → MoreP q a l ⟨true, n, []⟩ (.agg #[.bool false, .int .u64 0, .slice none 0 0, .bool false]) w (.returned (.agg #[.bool false, .int .u64 0, .slice none 0 0, .bool false])) w') := Lib.hid (fun w' hw => more_end HL.out HSC.out.1 (by omega) (lt_of_heap HSC.out.2) h3 hw)
  obtain ⟨rfl, _⟩ := h3
  clear ho hrq HM HSC n2
  obtain ⟨s, hs⟩ : ∃ s, w.heap.size = s := ⟨_, rfl⟩
  rw [hs] at N3 HFIN ⊢
  obtain ⟨r, hr⟩ : ∃ r, s + 1 = r := ⟨_, rfl⟩
  rw [hr] at N3 HFIN ⊢
  have f1 : ∀ j, w3.frozen? ⟨r, j, none⟩ = false := fun j => block_free N3.out
  have d0 : w3.cell? ⟨r, 0, none⟩ = some (.bool false) := block_cell N3.out rfl
  have d1 : w3.cell? ⟨r, 1, none⟩ = some (.int .u64 0) := block_cell N3.out rfl
  have d2 : w3.cell? ⟨r, 2, none⟩ = some (.slice none 0 0) := block_cell N3.out rfl
  have d3 : w3.cell? ⟨r, 3, none⟩ = some (.bool false) := block_cell N3.out rfl
  go_wp2_with fail
  refine step_end rfl (stored4 N3.out _ _ _ _) (HFIN.out _ ?_)
  repeat (first | exact Only.refl _ _ | refine Only.setCell ?_ _ _ (fun _ => rfl))
set_option maxRecDepth 100000 in
set_option maxHeartbeats 1600000 in
theorem stepSparse (h : Sta w q a c l) (hl : l.length ≤ 1000000) :
    Calls Try.prog 24 #[.pointer (some ⟨q, 0, none⟩), stv { op := 2 }] w (MoreP q a l ⟨false, 0, []⟩ (.agg #[.bool false, .int .u64 0, .slice none 0 0, .bool false]) w) := by
  have H := Lib.hid h
  have HL := Lib.hid h.lt
  clear h
  unfold stv
  simp only
  go_enter_defers Try.func24, Try.ntmps24
  go_wp2_with (go_at_call 28; refine (newSA _).mono ?_)
  rintro e w2 ⟨t, u, F, rfl, hA, hS2, hF2⟩
  obtain ⟨m1, _, m2⟩ := step_made (w := w) (.cells #[.int .i64 2, .int .i64 0, .int .i64 0, .int .u64 0, .int .i64 0, .bool false] 27) (.cells #[.bool false, .int .u64 0, .slice none 0 0, .bool false] 46)
  have HM := Lib.hid (madeN (H.out.still m1) hl (Only.refl _ _) hA hS2 hF2)
  have HSC := Lib.hid (And.intro m1 m2)
  have n2 := hS2.obj m2 id
  clear m1 m2 hA hF2 hS2
  go_wp2_with (go_at_call 26; refine HM.out.mono ?_)
  intro e w3 h3
  have hrq : ¬ (w.heap.size + 1 = q ∨ At a (w.heap.size + 1)) := fun h => by
    have := HL.out (w.heap.size + 1) (h.imp id .inl); omega
  have HO2 := h3.2
  obtain ⟨_, _, _, _, _, ho, _⟩ := HO2
  have N3 : Hid (w3.heap[w.heap.size + 1]? = _) := Lib.hid (ho.obj HSC.out.2 hrq)
  have HFIN : Hid (∀ w', Only (fun k => k = w.heap.size + 1) w3 w' → MoreP q a l ⟨false, 0, []⟩ (.agg #[.bool false, .int .u64 0, .slice none 0 0, .bool false]) w (.returned (.agg #[.bool false, .int .u64 0, .slice none 0 0, .bool false])) w') := Lib.hid (fun w' hw => more_end HL.out HSC.out.1 (by omega) (lt_of_heap HSC.out.2) h3 hw)
  obtain ⟨rfl, _⟩ := h3
  clear ho hrq HM HSC n2
  obtain ⟨s, hs⟩ : ∃ s, w.heap.size = s := ⟨_, rfl⟩
  rw [hs] at N3 HFIN ⊢
  obtain ⟨r, hr⟩ : ∃ r, s + 1 = r := ⟨_, rfl⟩
  rw [hr] at N3 HFIN ⊢
  have f1 : ∀ j, w3.frozen? ⟨r, j, none⟩ = false := fun j => block_free N3.out
  have d0 : w3.cell? ⟨r, 0, none⟩ = some (.bool false) := block_cell N3.out rfl
  have d1 : w3.cell? ⟨r, 1, none⟩ = some (.int .u64 0) := block_cell N3.out rfl
  have d2 : w3.cell? ⟨r, 2, none⟩ = some (.slice none 0 0) := block_cell N3.out rfl
  have d3 : w3.cell? ⟨r, 3, none⟩ = some (.bool false) := block_cell N3.out rfl
  go_wp2_with fail
  refine step_end rfl (stored4 N3.out _ _ _ _) (HFIN.out _ ?_)
  repeat (first | exact Only.refl _ _ | refine Only.setCell ?_ _ _ (fun _ => rfl))
end
end Go.Proofs.Ytacjkbljokjdkaa.ba

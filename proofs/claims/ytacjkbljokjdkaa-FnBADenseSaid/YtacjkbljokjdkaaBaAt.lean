/-
  arrays.at, arrays.made.
-/
import Derived.Test.YtacjkbljokjdkaaBaArr
import Derived.Test.YtacjkbljokjdkaaCut
import Derived.BigQuiet
namespace Go.Proofs.Ytacjkbljokjdkaa.ba
open Go.RowKit Go.Proofs.Ytacjkbljokjdkaa.base Go.Proofs.Ytacjkbljokjdkaa.heap Go.Proofs.Ytacjkbljokjdkaa.rows Go.Proofs.Ytacjkbljokjdkaa.bit Go.Proofs.Ytacjkbljokjdkaa.bs
set_option linter.unusedVariables false
section
variable {w : World} {q c : Nat} {a : Option Addr} {l : List It}
set_option maxRecDepth 100000 in
set_option maxHeartbeats 1600000 in
theorem atA (h : Sta w q a c l) (i : Nat) (x : It) (hx : l[i]? = some x) : Calls Try.prog 29 #[.pointer (some ⟨q, 0, none⟩), .int .i64 (i : Int)] w fun e w' => e = .returned x.v ∧ Same w w' := by
  have hi : i < l.length := (List.getElem?_eq_some_iff.1 hx).1
  obtain ⟨b, rfl, hb, hc⟩ := h.row.at (by omega)
  have c0 : w.cell? ⟨q, 0, none⟩ = some (.slice (some ⟨b, 0, none⟩) l.length c) := block_cell h.obj rfl
  have e0 := hc i x.v (by rw [List.getElem?_map, hx]; rfl)
  rw [Nat.zero_add] at e0
  have h0 : ¬ (i : Int) < 0 := by omega
  have h1 : ¬ (l.length : Int) ≤ (i : Int) := by omega
  have h2 : (0 : Int) ≤ (i : Int) := by omega
  have h3 : (i : Int) < (l.length : Int) := by omega
  have H : Hid (Same w w) := Lib.hid (Only.refl _ _)
  clear h hc hx hi
  go_enter Try.func29, Try.ntmps29
  go_wp2_with fail
  go_ret
  exact ⟨rfl, H.out⟩

theorem slBA : SliceOf Try.prog 56 62 1 16 := SliceOf.mk (z := .nilIface) Try.underlying56 (by kernel_rfl) rfl
/-- the array y stands behind them -/
def MadeP (q : Nat) (a : Option Addr) (l : List It) (y : It) (w : World) (e : Ending) (w' : World) : Prop :=
  e = .returned (.tuple #[]) ∧ ∃ a' c', Sta w' q a' c' (l ++ [y]) ∧ Only (fun k => k = q ∨ At a k) w w' ∧ ∀ k, At a' k → At a k ∨ w.heap.size ≤ k
set_option maxRecDepth 100000 in
set_option maxHeartbeats 1600000 in
theorem madeA (h : Sta w q a c l) (hl : l.length ≤ 1000000) (y : It) (t : TypeId) (u : Value) (hv : y.v = .iface t u) (hy : Arr w y.v y.d y.F) (hn : ∀ k, Fo q a l k → ¬ y.F k) : Calls Try.prog 26 #[.pointer (some ⟨q, 0, none⟩), y.v] w (MadeP q a l y w) := by
  have c0 : w.cell? ⟨q, 0, none⟩ = some (.slice a l.length c) := block_cell h.obj rfl
  have f0 : w.frozen? ⟨q, 0, none⟩ = false := block_free h.obj
  have hq := lt_of_heap h.obj
  have HROW := Lib.hid h.row
  have H := Lib.hid h
  have HY := Lib.hid hy
  have HN := Lib.hid hn
  obtain ⟨v, d, F⟩ := y
  simp only at *
  obtain rfl : v = .iface t u := hv
  clear h hy hn
  go_enter Try.func26, Try.ntmps26
  go_wp2_with (at_builtin; refine wpList_append (l.length + 1) (l.map (·.v) ++ [.iface t u]) rfl _ _ _ _ rfl slBA rfl (HROW.out.keep (S := fun _ => False) (by repeat (first | exact Only.refl _ _ | apply Only.alloc | apply Only.drew)) (fun _ _ => id)) rfl (Src.row (size := 1) (cs := #[.iface t u]) (t := 62) (fr := (0, 0)) Try.underlying56 (by exact heap_alloc_new _ _) 1 1 rfl (by simp [Value.oneCell'])) rfl rfl (by unfold maxLen; omega) (by omega) ?_)
  intro a2 c2 w2 hG
  have hS1 : Same w (w.alloc (Obj.cells #[.iface t u] 62)) := (Only.refl _ _).alloc _
  have hO2 : Only (At a) w w2 := (hS1.mono (fun _ _ f => f.elim)).trans hG.only (fun _ _ e => e)
  have hob2 : w2.heap[q]? = _ := hO2.obj H.out.obj H.out.nap
  have f2 : w2.frozen? ⟨q, 0, none⟩ = false := block_free hob2
  have hc2 : w2.cell? ⟨q, 0, none⟩ = some (.slice a l.length c) := block_cell hob2 rfl
  have hfr : ∀ k, At a2 k → At a k ∨ w.heap.size ≤ k := fun k hk => (hG.fresh k hk).imp id (fun h => Nat.le_trans hS1.size h)
  have hq2 : ¬ At a2 q := fun e => (hfr q e).elim H.out.nap (fun h => by omega)
  have HFIN : Hid (∀ w', w' = w2.setCell ⟨q, 0, none⟩ (.slice a2 (l.length + 1) c2) → MadeP q a l ⟨.iface t u, d, F⟩ w (.returned (.tuple #[])) w') := Lib.hid (by
    rintro w' rfl
    have hO3 : Only (fun k => k = q) w2 (w2.setCell ⟨q, 0, none⟩ (.slice a2 (l.length + 1) c2)) := (Only.refl _ _).setCell _ _ (fun _ => rfl)
    have hO : Only (fun k => k = q ∨ At a k) w (w2.setCell ⟨q, 0, none⟩ (.slice a2 (l.length + 1) c2)) := (hO2.mono (fun k _ h => .inr h)).trans hO3 (fun k _ h => .inl h)
    have hnF : ∀ k, F k → ¬ (k = q ∨ At a k) := fun k hk h => HN.out k (h.imp id (fun h => .inl h)) hk
    refine ⟨rfl, a2, c2, H.out.snoc (S := fun k => k = q ∨ At a k) (setCell_heap hob2 0 _) (hG.own.keep hO3 (fun k hk e => hq2 (by rw [← e]; exact hk))) (HY.out.keep hO hnF) (HN.out q (.inl rfl)) (fun k hk hF => ?_) (fun x hx k hk => HN.out k (.inr (.inr ⟨x, hx, hk⟩))) hO (fun x hx k hk h => ?_) hfr, hO, hfr⟩
    · rcases hfr k hk with h | h
      · exact HN.out k (.inr (.inl h)) hF
      · exact absurd (HY.out.lt k hF) (by omega)
    · rcases h with rfl | h
      · exact (H.out.arr x hx).2.1 hk
      · exact (H.out.arr x hx).2.2 k h hk)
  clear hG hS1 hO2 hob2 hfr hq2
  go_wp2_with fail
  go_end0
  exact HFIN.out _ rfl
end
end Go.Proofs.Ytacjkbljokjdkaa.ba

/-
  AVL trees: impl.avEntries.
-/
import Derived.Test.YtdamanckgmkbiaaAvAll
import Derived.Test.YtdamanckgmkbiaaSt
import Derived.Deep.RegionLaw
namespace Go.Proofs.Ytdamanckgmkbiaa.av
open Go.RowKit Go.Proofs.Ytdamanckgmkbiaa.base Go.Proofs.Ytdamanckgmkbiaa.heap Go.Proofs.Ytdamanckgmkbiaa.rows
open Tre
set_option linter.unusedVariables false
/-- a new list of structs -/
structure New {α : Type} (e : Nat) (c : α → List Value) (K : Nat) (w wr : World) (a : Option Addr) (n cap : Nat) (l : List α) : Prop where
  row : OS e c K wr a n cap l
  same : Same w wr
  new : ∀ k, At a k → w.heap.size ≤ k
section
variable {α : Type} {e : Nat} {c : α → List Value} {K : Nat} {w w1 wr w3 w5 : World} {a a2 : Option Addr} {n cap cap2 : Nat} {l : List α}
theorem New.nil (e : Nat) (c : α → List Value) (K : Nat) (w : World) : New e c K w w none 0 0 [] := ⟨OS.nil e c K w, Only.refl _ _, fun k h => h.elim⟩
theorem New.step {y : α} (h : New e c K w wr a n cap l) (ho : Same wr w3) (hG : Grew e K w3 w5 a a2 1 (n + 1) cap cap2 (l.flatMap c ++ c y)) : New e c K w w5 a2 (n + 1) cap2 (l ++ [y]) := by
  have hsz := h.same.size
  have hsz2 := ho.size
  refine ⟨⟨?_, by rw [List.length_append, h.row.2]; rfl⟩, new_only (h.same.trans ho) hG.only h.new, fun k hk => ?_⟩
  · rw [flat_snoc]; exact hG.own
  · rcases hG.fresh k hk with h1 | h1
    · exact h.new k h1
    · omega
theorem New.still (h : New e c K w wr a n cap l) (ho : Same wr w3) : New e c K w w3 a n cap l := ⟨h.row.still ho, h.same.trans ho, h.new⟩
theorem New.base (h : New e c K w1 wr a n cap l) (ho : Same w w1) : New e c K w wr a n cap l := ⟨h.row, ho.trans h.same, fun k hk => Nat.le_trans ho.size (h.new k hk)⟩
/-- an owned row's block has its elements' type -/
theorem own_type (h : OS e c K w a n cap l) {b : Nat} (hb : At a b) : ∃ cs, w.heap[b]? = some (.cells cs e (0, 0)) := by
  rcases h.1.alt with ⟨h1, _⟩ | ⟨b', cur, h1, h2, _⟩
  · rw [h1] at hb; exact hb.elim
  · rw [h1] at hb
    have e : b' = b := hb
    exact ⟨cur, e ▸ h2⟩
end
/-- an entry's cells -/
def entc (y : Int × Int) : List Value := [.int .i64 y.1, .int .i64 y.2]
theorem entc_len (y : Int × Int) : (entc y).length = 2 := rfl
theorem entc_one (y : Int × Int) : ∀ u ∈ entc y, u.oneCell' = true := by simp [entc, Value.oneCell']
theorem slEnt : SliceOf Try.prog 59 71 1 16 := SliceOf.mk (z := .nilIface) Try.underlying59 (by kernel_rfl) rfl
def entv (y : Int × Int) : List Value := [ente y]
/-- said of avEntries -/
def EnP (E : List (Int × Int)) (w : World) (e : Ending) (w' : World) : Prop := ∃ a cap, e = .returned (.slice a E.length cap) ∧ New 71 entv 1 w w' a E.length cap E
theorem entv_map (E : List (Int × Int)) : E.flatMap entv = E.map ente := by
  induction E with
  | nil => rfl
  | cons y E ih => rw [List.flatMap_cons, List.map_cons, ih]; rfl
theorem new_rl {w wr : World} {a : Option Addr} {n cap : Nat} {E : List (Int × Int)} (h : New 71 entv 1 w wr a n cap E) : RL ente wr a n cap E := by
  have h1 := h.row.rs
  refine ⟨?_, h1.2⟩
  have h2 := h1.1
  rw [entv_map] at h2
  exact h2
set_option maxRecDepth 100000 in
set_option maxHeartbeats 1600000 in
theorem entriesC {w : World} {a : Option Addr} {n cap : Nat} {E : List (Int × Int)} (h : RS entc 2 w a n cap E) (hn : n < 100000) : Calls Try.prog 24 #[.slice a n cap] w (EnP E w) := by
  have hbd := h.bound
  have HR := Lib.hid h
  have HL := Lib.hid h.2
  have HN0 := Lib.hid (New.nil 71 entv 1 w)
  clear h
  go_enter Try.func24, Try.ntmps24
  go_wp2_with fail
  go_loopw [3, 8] (fun o i wr => ∃ (j : Nat) (oa : Option Addr) (oc : Nat), o = .slice oa j oc ∧ i = .int .i64 (j : Int) ∧ j ≤ n ∧ Hid (New 71 entv 1 w wr oa j oc (E.take j))) (fun _ i _ => n - (intOf i).toNat)
  case atStart => exact ⟨0, none, 0, rfl, rfl, Nat.zero_le _, HN0⟩
  case round =>
    clear HN0
    obtain ⟨j, oa, oc, rfl, rfl, hj, HG⟩ := hrel
    have hbo := HG.out.row.bound
    by_cases hlt : j < n
    · have hlt' : (j : Int) < (n : Int) := by omega
      obtain ⟨⟨kx, tx⟩, hy⟩ := HR.out.get hlt
      obtain ⟨b, off, ha, hb, hc⟩ := (HR.out.still HG.out.same).at entc_len (by omega)
      have hc2 := hc j _ hy
      have c0 : wr.cell? ⟨b, off + j * 2, none⟩ = some (.int .i64 kx) := hc2 0 _ rfl
      have c1 : wr.cell? ⟨b, off + j * 2 + 1, none⟩ = some (.int .i64 tx) := hc2 1 _ rfl
      have HY := Lib.hid hy
      subst ha
      clear hc hc2 hy
      go_wp2_with (at_builtin; refine wpList_append (j + 1) ((E.take j).flatMap entv ++ [ent kx tx]) rfl _ _ _ _ rfl slEnt rfl (HG.out.row.1.keep (S := fun _ => False) (by repeat (first | exact Only.refl _ _ | apply Only.alloc | apply Only.drew)) (fun _ _ => id)) rfl (Src.row (size := 1) (cs := #[ent kx tx]) (t := 71) (fr := (0, 0)) Try.underlying59 (by exact heap_alloc_new' _ _ _ (by simp)) 1 1 rfl (by simp [Value.oneCell'])) rfl rfl (by unfold maxLen; omega) (by omega) ?_)
      intro a2 c2 w5 hG
      have HG2 : Hid (New 71 entv 1 w w5 a2 (j + 1) c2 (E.take (j + 1))) := Lib.hid (by
        rw [take_snoc E j _ HY.out]
        exact HG.out.step (y := (kx, tx)) (((Only.refl _ wr).alloc _).alloc _) hG)
      clear hG HG
      go_wp2_with fail
      go_roundw
      case rel => exact ⟨j + 1, a2, c2, rfl, by go_num, by omega, HG2⟩
      case measure => simp [intOf]; omega
    · have hlt' : ¬ (j : Int) < (n : Int) := by omega
      obtain rfl : j = n := by omega
      go_wp2_with fail
      go_ret
      refine ⟨oa, oc, by rw [HL.out]; rfl, ?_⟩
      have := HG.out
      rwa [List.take_of_length_le (by rw [HR.out.2]; exact Nat.le_refl _), ← HL.out] at this
end Go.Proofs.Ytdamanckgmkbiaa.av

/-
  What further steps do on a dense array: all bits, set and clear and get in its room and out of it, reset.
-/
import Derived.Test.YtacjkbljokjdkaaBaAsk2
import Derived.Test.YtacjkbljokjdkaaBaDoesD
namespace Go.Proofs.Ytacjkbljokjdkaa.ba
open Go.RowKit Go.Proofs.Ytacjkbljokjdkaa.base Go.Proofs.Ytacjkbljokjdkaa.heap Go.Proofs.Ytacjkbljokjdkaa.rows Go.Proofs.Ytacjkbljokjdkaa.bit Go.Proofs.Ytacjkbljokjdkaa.bs
set_option linter.unusedVariables false
theorem does_denseAll (s : List BA) (k : Nat) (hk : k ≤ 64000000) (hk1 : 1 ≤ k) : Does s { op := 1, k := k, all := true } (s ++ [⟨true, (k + 63) / 64, List.range (64 * ((k + 63) / 64))⟩]) {} :=
  fun w q c a l h hs hl => (stepDenseAll h (by omega) k hk hk1).mono fun e w' hp => does_more h hs {} rfl hp
theorem set_same {s : List BA} {i : Nat} {d : BA} (hd : s[i]? = some d) : s.set i d = s := by
  apply List.ext_getElem?
  intro j
  rw [List.getElem?_set]
  split
  · rename_i e
    subst e
    have := (List.getElem?_eq_some_iff.1 hd).1
    rw [if_pos this, hd]
  · rfl
section
variable {s : List BA} {i : Nat} {d : BA} (hd : s[i]? = some d) (hdd : d.dense = true)
include hd hdd
theorem does_setO (k : Nat) (hl64 : Lt64 k) (hk : ¬ k < 64 * d.words) : Does s { op := 3, on := i, k := k } s {} := by
  intro w q c a l h hs hl
  obtain ⟨p, ab, cb, ws, lo, hi, any, hx, h1, h2, h3, h4⟩ := dense_at hd hdd h hs
  rw [h1] at hk
  refine (stepSetOut h i p d _ hx k (Lib.hid (fun wx hS => (setOut (h2.still hS) k hl64 (by omega)).mono ?_))).mono fun e w' hp => does_ask h hs {} rfl hp
  rintro e w' ⟨rfl, rfl⟩
  exact ⟨rfl, Only.refl _ _⟩
theorem does_clearO (k : Nat) (hk : ¬ k < 64 * d.words) : Does s { op := 4, on := i, k := k } s {} := by
  intro w q c a l h hs hl
  obtain ⟨p, ab, cb, ws, lo, hi, any, hx, h1, h2, h3, h4⟩ := dense_at hd hdd h hs
  rw [h1] at hk
  refine (stepClearOut h i p d _ hx k (Lib.hid (fun wx hS => (clearOut (h2.still hS) k (by omega)).mono ?_))).mono fun e w' hp => does_ask h hs {} rfl hp
  rintro e w' ⟨rfl, rfl⟩
  exact ⟨rfl, Only.refl _ _⟩
theorem does_getO (k : Nat) (hk : ¬ k < 64 * d.words) : Does s { op := 5, on := i, k := k } s {} := by
  intro w q c a l h hs hl
  obtain ⟨p, ab, cb, ws, lo, hi, any, hx, h1, h2, h3, h4⟩ := dense_at hd hdd h hs
  rw [h1] at hk
  refine (stepGetOut h i p d _ hx k (Lib.hid (fun wx hS => (getOut (h2.still hS) k (by omega)).mono ?_))).mono fun e w' hp => does_ask h hs {} rfl hp
  rintro e w' ⟨rfl, rfl⟩
  exact ⟨rfl, Only.refl _ _⟩
theorem does_getD (k : Nat) (hk : k < 64 * d.words) : Does s { op := 5, on := i, k := k } s { yes := true, n := if k ∈ d.set then 1 else 0 } := by
  intro w q c a l h hs hl
  obtain ⟨p, ab, cb, ws, lo, hi, any, hx, h1, h2, h3, h4⟩ := dense_at hd hdd h hs
  rw [h1] at hk
  by_cases hm : k ∈ d.set
  · have hb := (rep_bit h3 k).1 hm
    rw [if_pos hm]
    refine (stepGetYes h i p d _ hx k (Lib.hid (fun wx hS => (getD_ (h2.still hS) k hk).mono ?_))).mono fun e w' hp => does_ask h hs { yes := true, n := 1 } rfl hp
    rintro e w' ⟨rfl, rfl⟩
    rw [hb]
    exact ⟨rfl, Only.refl _ _⟩
  · have hb : bit ws k = false := by
      cases hb : bit ws k with
      | false => rfl
      | true => exact absurd ((rep_bit h3 k).2 hb) hm
    rw [if_neg hm]
    refine (stepGetNo h i p d _ hx k (Lib.hid (fun wx hS => (getD_ (h2.still hS) k hk).mono ?_))).mono fun e w' hp => does_ask h hs { yes := true, n := 0 } rfl hp
    rintro e w' ⟨rfl, rfl⟩
    rw [hb]
    exact ⟨rfl, Only.refl _ _⟩
theorem does_clearD (k : Nat) (hk : k < 64 * d.words) : Does s { op := 4, on := i, k := k } (s.set i { d with set := drp d.set k }) { yes := true } := by
  intro w q c a l h hs hl
  obtain ⟨p, ab, cb, ws, lo, hi, any, hx, h1, h2, h3, h4⟩ := dense_at hd hdd h hs
  rw [h1] at hk
  refine (stepClear h i p d _ hx k { d with set := drp d.set k } (Lib.hid (fun wx hS => (clearD (h2.still hS) h4 k hk).mono ?_))).mono fun e w' hp => does_turn h hs { yes := true } rfl hx hp
  rintro e w' ⟨rfl, ho, ws2, lo', hi', any', hD, hlen, hb, hE⟩
  refine ⟨rfl, ho, Ft p ab, ?_, fun k hk => .inl hk⟩
  have hrep : Rep (wf ws2) (drp d.set k) := ⟨drp_asc h3.1 k, fun x => by
    rw [drp_mem h3.1, rep_bit h3]
    exact (hb x).symm⟩
  have := Arr.dense p ab cb _ lo' hi' any' _ hD hrep hE
  have e : ({ d with set := drp d.set k } : BA) = ⟨true, ws.length, drp d.set k⟩ := by rw [← h1, ← hdd]
  rw [e, ← hlen]; exact this
theorem does_resetD : Does s { op := 6, on := i } (s.set i { d with set := [] }) {} := by
  intro w q c a l h hs hl
  obtain ⟨p, ab, cb, ws, lo, hi, any, hx, h1, h2, h3, h4⟩ := dense_at hd hdd h hs
  refine (stepReset h i p d _ hx { d with set := [] } (Lib.hid (fun wx hS => (resetD (h2.still hS)).mono ?_))).mono fun e w' hp => does_turn h hs {} rfl hx hp
  rintro e w' ⟨rfl, ho, hD⟩
  refine ⟨rfl, ho, Ft p ab, ?_, fun k hk => .inl hk⟩
  have := Arr.dense p ab cb _ lo hi false _ hD (rep_zeros _) ⟨h4.1, by rw [List.length_replicate]; exact h4.2.1, fun _ => nob_zeros _, fun e => (by cases e)⟩
  have e : ({ d with set := [] } : BA) = ⟨true, ws.length, []⟩ := by rw [← h1, ← hdd]
  rw [List.length_replicate] at this
  rw [e]; exact this
end
end Go.Proofs.Ytacjkbljokjdkaa.ba

/-
  AVL trees: slices.Equal, slices.Contains, slices.Reverse.
-/
import Derived.Test.YtdamanckgmkbiaaAvSpec
namespace Go.Proofs.Ytdamanckgmkbiaa.av
open Go.RowKit Go.Proofs.Ytdamanckgmkbiaa.base Go.Proofs.Ytdamanckgmkbiaa.heap Go.Proofs.Ytdamanckgmkbiaa.rows
open Tre
set_option linter.unusedVariables false
set_option maxRecDepth 100000 in
theorem equalE {w : World} {a a' : Option Addr} {n cap cap' : Nat} {l : List (Int × Int)} (h : RS entc 2 w a n cap l) (h' : RS entc 2 w a' n cap' l) : Calls Try.prog 15 #[.slice a n cap, .slice a' n cap'] w (FV w (.bool true)) := by
  have HA := Lib.hid h
  have HB := Lib.hid h'
  have bd := h.bound
  have bd' := h'.bound
  clear h h'
  go_enter Try.func15, Try.ntmps15
  go_wp2_with fail
  go_loopw [5, 13] (fun _ i wr => ∃ j : Nat, i = .int .i64 (j : Int) ∧ j ≤ n ∧ Hid (Same w wr)) (fun _ i _ => n - (intOf i).toNat)
  case atStart => exact ⟨0, rfl, Nat.zero_le _, Lib.hid (Only.refl _ _)⟩
  case round =>
    obtain ⟨j, rfl, hj, HS⟩ := hrel
    by_cases hlt : j < n
    · have hlt' : (j : Int) < (n : Int) := by omega
      have hj0 : (0 : Int) ≤ (j : Int) := by omega
      obtain ⟨y, hy⟩ := HA.out.get hlt
      obtain ⟨b, off, ha, hb, hc⟩ := (HA.out.still HS.out).at entc_len (by omega)
      obtain ⟨b', off', ha', hb', hc'⟩ := (HB.out.still HS.out).at entc_len (by omega)
      have c0 : wr.cell? ⟨b, off + j * 2, none⟩ = some (.int .i64 y.1) := hc j y hy 0 _ rfl
      have c1 : wr.cell? ⟨b, off + j * 2 + 1, none⟩ = some (.int .i64 y.2) := hc j y hy 1 _ rfl
      have d0 : wr.cell? ⟨b', off' + j * 2, none⟩ = some (.int .i64 y.1) := hc' j y hy 0 _ rfl
      have d1 : wr.cell? ⟨b', off' + j * 2 + 1, none⟩ = some (.int .i64 y.2) := hc' j y hy 1 _ rfl
      subst ha ha'
      clear hc hc' hy
      go_wp2_with fail
      go_region
      all_goals
        go_wp2_with fail
        exact ⟨⟨j + 1, by go_num, by omega, Lib.hid HS.out.drew⟩, by simp [intOf]; omega⟩
    · have hlt' : ¬ (j : Int) < (n : Int) := by omega
      obtain rfl : j = n := by omega
      go_wp2_with fail
      go_ret
      exact ⟨rfl, HS.out⟩
theorem boolc_len (b : Bool) : (boolc b).length = 1 := rfl
set_option maxHeartbeats 400000 in
theorem indexB (a : Option Addr) (n cap : Nat) (l : List Bool) (w : World) (h : RS boolc 1 w a n cap l) (hl : ∀ b ∈ l, b = true) :
    Calls Try.prog 25 #[.slice a n cap, .bool false] w fun e w' => e = .returned (.int .i64 (-1)) ∧ w = w' := by
  have hbd := h.bound
  have HR := Lib.hid h
  have HL := Lib.hid hl
  clear h hl
  go_enter Try.func25, Try.ntmps25
  go_wp2
  go_loop [5, 8] (fun _ i => ∃ k : Nat, k ≤ n ∧ i = .int .i64 (k : Int)) (fun _ i => n - (intOf i).toNat)
  case atStart => exact ⟨0, Nat.zero_le _, rfl⟩
  case round =>
    obtain ⟨k, hk, rfl⟩ := hrel
    by_cases hlt : k < n
    · have hlt' : (k : Int) < (n : Int) := by omega
      have hk0 : (0 : Int) ≤ (k : Int) := by omega
      obtain ⟨b, off, rfl, hb, hc⟩ := HR.out.at boolc_len (by omega)
      obtain ⟨y, hy⟩ := HR.out.get hlt
      obtain rfl : y = true := HL.out y (List.mem_of_getElem? hy)
      have c0 : w.cell? ⟨b, off + k, none⟩ = some (.bool true) := by have h := hc k true hy 0 _ rfl; rw [Nat.mul_one] at h; exact h
      clear hc hy
      go_wp2
      go_round
      case rel => exact ⟨k + 1, by omega, by go_num⟩
      case measure => simp [intOf]; omega
    · obtain rfl : k = n := by omega
      go_wp2
      go_ret
      exact ⟨rfl, rfl⟩
theorem containsB (a : Option Addr) (n cap : Nat) (l : List Bool) (w : World) (h : RS boolc 1 w a n cap l) (hl : ∀ b ∈ l, b = true) :
    Calls Try.prog 16 #[.slice a n cap, .bool false] w fun e w' => e = .returned (.bool false) ∧ w = w' := by
  have HI := Lib.hid (indexB a n cap l w h hl)
  have hbd := h.bound
  clear h
  go_enter Try.func16, Try.ntmps16
  go_wp2_with fail
  refine HI.out.mono ?_
  rintro e w1 ⟨rfl, rfl⟩
  go_wp2_with fail
  go_ret
  exact ⟨rfl, rfl⟩
theorem flat_set : ∀ (L : List (Int × Int)) (i : Nat) (x : Int × Int), i < L.length → ((L.flatMap entc).set (i * 2) (.int .i64 x.1)).set (i * 2 + 1) (.int .i64 x.2) = (L.set i x).flatMap entc
  | [], i, x, h => by simp at h
  | y :: L, 0, x, h => by simp [entc]
  | y :: L, i + 1, x, h => by
    have := flat_set L i x (by simpa using h)
    rw [List.set_cons_succ, List.flatMap_cons, List.flatMap_cons, ← this]
    rw [show (i + 1) * 2 = i * 2 + 1 + 1 by omega]
    rfl
theorem os_put {w : World} {g n cap i : Nat} {L : List (Int × Int)} (h : OS 38 entc 2 w (some ⟨g, 0, none⟩) n cap L) (x : Int × Int) (hi : i < n) :
    OS 38 entc 2 ((w.setCell ⟨g, i * 2, none⟩ (.int .i64 x.1)).setCell ⟨g, i * 2 + 1, none⟩ (.int .i64 x.2)) (some ⟨g, 0, none⟩) n cap (L.set i x) := by
  refine ⟨?_, by rw [List.length_set]; exact h.2⟩
  have := (h.1.set rfl (i * 2) (.int .i64 x.1) rfl (by omega)).set rfl (i * 2 + 1) (.int .i64 x.2) rfl (by omega)
  rwa [flat_set L i x (by rw [h.2]; exact hi)] at this
/-- said of Reverse -/
def RevP (g n cap : Nat) (L : List (Int × Int)) (w : World) (e : Ending) (w' : World) : Prop := e = .returned (.tuple #[]) ∧ ∃ L', OS 38 entc 2 w' (some ⟨g, 0, none⟩) n cap L' ∧ L'.Perm L ∧ Only (At (some ⟨g, 0, none⟩)) w w'
set_option maxRecDepth 100000 in
set_option maxHeartbeats 1600000 in
theorem reverseE {w : World} {g n cap : Nat} {L : List (Int × Int)} (h : OS 38 entc 2 w (some ⟨g, 0, none⟩) n cap L) (hn : 0 < n) (hn2 : n < 1000000) : Calls Try.prog 12 #[.slice (some ⟨g, 0, none⟩) n cap] w (RevP g n cap L w) := by
  have hbd := h.bound
  have HI0 : Hid (∃ L', OS 38 entc 2 w (some ⟨g, 0, none⟩) n cap L' ∧ L'.Perm L ∧ Only (At (some ⟨g, 0, none⟩)) w w) := Lib.hid ⟨L, h, List.Perm.refl _, Only.refl _ _⟩
  clear h
  obtain ⟨q, rfl⟩ : ∃ q, n = q + 1 := ⟨n - 1, by omega⟩
  have e1 : ((q + 1 : Nat) : Int) - 1 = (q : Int) := by omega
  go_enter Try.func12, Try.ntmps12
  go_wp2_with fail
  go_loopw [2, 3] (fun i j wr => ∃ (p r : Nat), i = .int .i64 (p : Int) ∧ j = .int .i64 (r : Int) ∧ p + r = q ∧ Hid (∃ L', OS 38 entc 2 wr (some ⟨g, 0, none⟩) (q + 1) cap L' ∧ L'.Perm L ∧ Only (At (some ⟨g, 0, none⟩)) w wr)) (fun _ j _ => (intOf j).toNat)
  case atStart => exact ⟨0, q, rfl, by go_num, by omega, HI0⟩
  case round =>
    clear HI0
    obtain ⟨p, r, rfl, rfl, hpr, HI⟩ := hrel
    by_cases hlt : p < r
    · have hlt' : (p : Int) < (r : Int) := by omega
      obtain ⟨L', h1, h2, h3⟩ := HI.out
      have hlen := h1.2
      have hx : L'[p]? = some (L'[p]'(by omega)) := List.getElem?_eq_getElem _
      have hy : L'[r]? = some (L'[r]'(by omega)) := List.getElem?_eq_getElem _
      obtain ⟨b, off, ha, hb, hc⟩ := h1.rs.at entc_len (by omega)
      simp only [Option.some.injEq, Addr.mk.injEq] at ha
      obtain ⟨rfl, rfl, _⟩ := ha
      have hfr : ∀ i, wr.frozen? ⟨g, i, none⟩ = false := fun i => h1.1.frozen rfl i
      have HSW : Hid (∀ wx, Hid (OS 38 entc 2 wx (some ⟨g, 0, none⟩) (q + 1) cap ((L'.set p L'[r]).set r L'[p]) ∧ Only (At (some ⟨g, 0, none⟩)) wr wx) → Hid (∃ L', OS 38 entc 2 wx (some ⟨g, 0, none⟩) (q + 1) cap L' ∧ L'.Perm L ∧ Only (At (some ⟨g, 0, none⟩)) w wx)) := Lib.hid (fun wx hx => Lib.hid ⟨_, hx.out.1, (List.set_set_perm (by omega) (by omega)).trans h2, h3.trans hx.out.2 (fun _ _ h => h)⟩)
      have H1 := Lib.hid h1
      obtain ⟨⟨kx, tx⟩, hX⟩ : ∃ X, L'[p]'(by omega) = X := ⟨_, rfl⟩
      obtain ⟨⟨ky, ty⟩, hY⟩ : ∃ X, L'[r]'(by omega) = X := ⟨_, rfl⟩
      rw [hX] at hx HSW
      rw [hY] at hy HSW
      have c0 : wr.cell? ⟨g, p * 2, none⟩ = some (.int .i64 kx) := by have h := hc p _ hx 0 _ rfl; rw [Nat.zero_add] at h; exact h
      have c1 : wr.cell? ⟨g, p * 2 + 1, none⟩ = some (.int .i64 tx) := by have h := hc p _ hx 1 _ rfl; rw [Nat.zero_add] at h; exact h
      have d0 : wr.cell? ⟨g, r * 2, none⟩ = some (.int .i64 ky) := by have h := hc r _ hy 0 _ rfl; rw [Nat.zero_add] at h; exact h
      have d1 : wr.cell? ⟨g, r * 2 + 1, none⟩ = some (.int .i64 ty) := by have h := hc r _ hy 1 _ rfl; rw [Nat.zero_add] at h; exact h
      have n1 : p * 2 ≠ r * 2 := by omega
      have n2 : p * 2 + 1 ≠ r * 2 := by omega
      have n3 : p * 2 ≠ r * 2 + 1 := by omega
      have n4 : r * 2 ≠ p * 2 := by omega
      have n5 : r * 2 ≠ p * 2 + 1 := by omega
      have n6 : r * 2 + 1 ≠ p * 2 := by omega
      have hp1 : (p : Int) < ((q + 1 : Nat) : Int) := by omega
      have hr1 : (r : Int) < ((q + 1 : Nat) : Int) := by omega
      clear hX hY hx hy hc h1 h2 h3 HI hlen
      go_wp2_with fail
      go_region
      have HF := HSW.out ((((wr.setCell ⟨g, p * 2, none⟩ (.int .i64 ky)).setCell ⟨g, p * 2 + 1, none⟩ (.int .i64 ty)).setCell ⟨g, r * 2, none⟩ (.int .i64 kx)).setCell ⟨g, r * 2 + 1, none⟩ (.int .i64 tx)).drew (Lib.hid (by
        have h1 := os_put (os_put H1.out (ky, ty) (i := p) (by omega)) (kx, tx) (i := r) (by omega)
        exact ⟨⟨h1.1.drew, h1.2⟩, (((((Only.refl (At (some ⟨g, 0, none⟩)) wr).setCell ⟨g, p * 2, none⟩ _ (fun _ => rfl)).setCell ⟨g, p * 2 + 1, none⟩ _ (fun _ => rfl)).setCell ⟨g, r * 2, none⟩ _ (fun _ => rfl)).setCell ⟨g, r * 2 + 1, none⟩ _ (fun _ => rfl)).drew⟩))
      go_wp2_with fail
      go_roundw
      case rel => exact ⟨p + 1, r - 1, by go_num, by go_num, by omega, HF⟩
      case measure => simp [intOf]; omega
    · have hlt' : ¬ (p : Int) < (r : Int) := by omega
      go_wp2_with fail
      go_end0
      exact ⟨rfl, HI.out⟩
end Go.Proofs.Ytdamanckgmkbiaa.av

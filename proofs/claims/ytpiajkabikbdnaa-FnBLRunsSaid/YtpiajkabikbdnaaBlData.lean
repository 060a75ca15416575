/-
  Data that is looked at; the locations, by the thin package; parameters that are bytes.
-/
import Derived.Test.YtpiajkabikbdnaaBlImpl
namespace Go.Proofs.Ytpiajkabikbdnaa.bs
open Go.RowKit Go.Proofs.Ytpiajkabikbdnaa.base Go.Proofs.Ytpiajkabikbdnaa.heap Go.Proofs.Ytpiajkabikbdnaa.bit
set_option linter.unusedVariables false

theorem row_bytes {w : World} {a : Option Addr} {m cap : Nat} {zs : List Int} (h : IsRow .u8 w a m cap zs) : ∃ l, RY w a m cap l ∧ ∀ x ∈ l, x < 256 := by
  rcases h with ⟨rfl, rfl, rfl, rfl⟩ | ⟨x, rfl, hl, hm, hz, hc, hw⟩
  · exact ⟨[], ⟨Rd.nil w 1, rfl⟩, fun x hx => nomatch hx⟩
  · have hrow : IsRow .u8 w (some x) m cap zs := .inr ⟨x, rfl, hl, hm, hz, hc, hw⟩
    refine ⟨(zs.take m).map Int.toNat, ⟨⟨by simp [By, hz]; omega, hl, hm, ?_, fun h0 => ?_, fun h => by cases h⟩, by simp [hz]; omega⟩, ?_⟩
    · intro u hu
      obtain ⟨_, _, rfl⟩ := List.mem_map.1 hu
      rfl
    · obtain ⟨b, off, hx, hle, hb, hcc⟩ := hrow.cells h0
      cases hx
      refine ⟨b, off, rfl, hb, fun j v hj => ?_⟩
      simp only [By, List.map_map, List.getElem?_map] at hj
      rw [List.getElem?_take] at hj
      split at hj
      · rename_i hjm
        rw [List.getElem?_eq_getElem (by omega)] at hj
        simp only [Option.map_some, Function.comp, Option.some.injEq] at hj
        subst hj
        rw [hcc j (by omega)]
        have h0 := wf_u8 (hw zs[j] (List.getElem_mem (by omega)))
        rw [show zs.getD j 0 = zs[j] from by simp [show j < zs.length by omega], Int.toNat_of_nonneg h0.1]
      · simp at hj
    · intro y hy
      obtain ⟨z, hz2, rfl⟩ := List.mem_map.1 hy
      have h0 := wf_u8 (hw z (List.mem_of_mem_take hz2))
      omega

/-- at most 80 bytes, that are read from the world w on -/
def FData (w w0 : World) (e : Ending) (w' : World) : Prop :=
  ∃ (a : Option Addr) (n cap : Nat) (d : List Nat), e = .returned (.slice a n cap) ∧ n ≤ 80 ∧ (∀ x ∈ d, x < 256) ∧ (∀ wx, Same w wx → RY wx a n cap d) ∧ Same w0 w'
theorem RY.first {w : World} {a : Option Addr} {n cap : Nat} {l : List Nat} (h : RY w a n cap l) (m : Nat) (hm : m ≤ n) : RY w a m cap (l.take m) := by
  refine ⟨?_, by rw [List.length_take, h.2]; omega⟩
  have := Rd.first h.1 m hm
  rwa [show (By l).take m = By (l.take m) by simp [By, List.map_take]] at this
set_option maxHeartbeats 800000 in
theorem blData (a : Option Addr) (n cap : Nat) (l : List Nat) (w w0 wx : World) (h : RY w a n cap l) (hby : ∀ x ∈ l, x < 256) (h0 : Same w w0) (hx : Same w0 wx) :
    Calls Try.prog 18 #[.slice a n cap] wx (FData w w0) := by
  have hbd := h.1.bound
  by_cases h80 : 80 < n
  · have HE : Hid (FData w w0 (.returned (.slice a 80 cap)) wx) := Lib.hid ⟨a, 80, cap, l.take 80, rfl, Nat.le_refl _, fun x hx => hby x (List.mem_of_mem_take hx), fun wy hy => (h.keep hy (fun _ _ => id)).first 80 (by omega), hx⟩
    have h1 : (80 : Int) < (n : Int) := by omega
    clear h hby h0 hx
    go_enter Try.func18, Try.ntmps18
    go_wp2_with fail
    go_ret
    exact HE.out
  · have HE : Hid (FData w w0 (.returned (.slice a n cap)) wx) := Lib.hid ⟨a, n, cap, l, rfl, by omega, hby, fun wy hy => h.keep hy (fun _ _ => id), hx⟩
    have h1 : ¬ (80 : Int) < (n : Int) := by omega
    clear h hby h0 hx
    go_enter Try.func18, Try.ntmps18
    go_wp2_with fail
    go_ret
    exact HE.out

set_option maxHeartbeats 800000 in
theorem implLocations (H : List Nat → Int × Int × Int × Int) (hH : ∀ l w a n cap, n ≤ 1048576 → RY w a n cap l → Calls Try.prog 53 #[.slice a n cap] w (FV w (H4 (H l))))
    (l : List Nat) (a : Option Addr) (n cap K : Nat) (w : World) (h : RY w a n cap l) (hn : n ≤ 1048576) (hK : K ≤ 1048576) :
    Calls Try.prog 20 #[.slice a n cap, .int .u64 (K : Int)] w (FNums w K ((List.range K).map (loc (H l)))) := by
  have HC := Lib.hid (bl_locations H hH l a n cap K w h hn hK)
  clear h hH
  go_enter Try.func20, Try.ntmps20
  go_wp2_with fail
  refine HC.out.mono ?_
  rintro e w1 hr
  have HR := Lib.hid hr
  obtain ⟨a1, cap1, rfl, _⟩ := hr
  go_wp2_with fail
  go_ret
  exact HR.out

/-- a plain filter of M bits, b among its first n words -/
structure PutIn (w : World) (a : Option Addr) (n cap : Nat) (l : List Nat) (M : Nat) (b : List Bool) : Prop where
  ru : RU w a n cap l
  ok : Ok l
  bits : bitsOf l M = b
  le : M ≤ 64 * n
theorem PutIn.keep {w w' : World} {a : Option Addr} {n cap : Nat} {l : List Nat} {M : Nat} {b : List Bool} (h : PutIn w a n cap l M b) (ho : Same w w') : PutIn w' a n cap l M b := ⟨h.ru.keep ho (fun _ _ => id), h.ok, h.bits, h.le⟩
def FPut (w0 : World) (M K n : Nat) (b : List Bool) (e : Ending) (w' : World) : Prop :=
  ∃ a cap l, e = .returned (.agg #[.int .u64 (M : Int), .int .u64 (K : Int), .slice a n cap]) ∧ PutIn w' a n cap l M b ∧ Same w0 w'
theorem fput {P : Program} {f : FuncId} {args : Array Value} {w0 w : World} {M K n : Nat} {b : List Bool} (hs : Same w0 w) (hM : b.length = M) (h : Calls P f args w (FFB w K n b)) : Calls P f args w (FPut w0 M K n b) := by
  subst hM
  exact h.mono fun e w' ⟨a, cap, l, he, h1, h2, h3, h4, hO, _⟩ => ⟨a, cap, l, he, ⟨h1, h2, h3, h4⟩, hs.trans hO⟩
theorem same_put {w0 wx : World} {a3 : Option Addr} {n c3 : Nat} {l3 : List Nat} {M K : Nat} {b : List Bool} {a9 : Option Addr} {c9 : Nat} (hM : b.length = M) (hn : n ≤ 16384) (hM2 : M ≤ 1048576) (h1 : Same w0 wx) (h2 : PutIn wx a3 n c3 l3 M b) (h3 : RB wx a9 M c9 b) :
    Calls Try.prog 14 #[.agg #[.int .u64 (M : Int), .int .u64 (K : Int), .slice a3 n c3], .int .u64 (K : Int), .slice a9 M c9] wx (FV w0 (.bool true)) := by
  subst hM
  have := blSame_b b K a3 n c3 l3 a9 c9 wx h2.ru h2.ok h2.le hn h3
  rw [h2.bits, decide_eq_true rfl] at this
  exact this.mono fun e w' ⟨he, hO⟩ => ⟨he, h1.trans hO⟩
end Go.Proofs.Ytpiajkabikbdnaa.bs

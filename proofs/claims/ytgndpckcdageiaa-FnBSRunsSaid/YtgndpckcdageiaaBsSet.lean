/-
  Bitsets: Set within the bitset.
-/
import Derived.Test.YtgndpckcdageiaaBsCore
import Derived.Deep.RegionWith
import Derived.StillTailTactics
namespace Go.Proofs.Ytgndpckcdageiaa.bs
open Go.RowKit Go.Proofs.Ytgndpckcdageiaa.base Go.Proofs.Ytgndpckcdageiaa.heap Go.Proofs.Ytgndpckcdageiaa.bit
set_option linter.unusedVariables false

set_option maxRecDepth 100000 in
set_option maxHeartbeats 800000 in
theorem set_raw (o : O) (i : Nat) (w : World) (b : Nat) (ha : o.a = some ⟨b, 0, none⟩) (h : o.ok w) (hi : i < o.n) (hm : i / 64 < o.m) (hi2 : i < 4611686018427387904) :
    Calls Try.prog 18 #[o.ptr, .int .u64 (i : Int)] w fun e w' => e = .returned o.ptr ∧
      ∃ m, w' = (w.setCell ⟨b, i / 64, none⟩ (.int .u64 ((o.ws.getD (i / 64) 0 ||| 2 ^ (i % 64) : Nat) : Int))).drewN m := by
  obtain ⟨b', ha', hp, hb, hne, c0, c1, f0, f1, hc, hf, hmc, hcap⟩ := h.facts
  rw [ha] at ha'
  cases ha'
  have cw := hc _ hm
  have fw := hf (i / 64)
  have hw := h.fits.at (i / 64)
  have hmi : (i : Int) / 64 < (o.m : Int) := by omega
  have ht : ((i : Int) / 64).toNat = i / 64 := by omega
  have hge : (0 : Int) ≤ (i : Int) / 64 := by omega
  clear hc hf
  have hb : Hid (∀ x : Nat, x = o.ws.getD (i / 64) 0 → bits .or .u64 (x : Int) (2 ^ (i % 64) % 18446744073709551616) = ((o.ws.getD (i / 64) 0 ||| 2 ^ (i % 64) : Nat) : Int)) := Lib.hid (fun x hx => by
    rw [hx]; exact or_pow hw (Nat.mod_lt _ (by omega)))
  generalize hx : o.ws.getD (i / 64) 0 = x at *
  have HX := Lib.hid hx
  clear hx hw
  unfold O.ptr
  go_enter Try.func18, Try.ntmps18
  go_wp2
  refine wp_region_still_tail 13 (by kernel_rfl) (by kernel_rfl) ?_
  simp only [List.take_succ_cons, List.take_zero, List.drop_succ_cons, List.drop_zero]
  repeat still_step
  still_call (wordsIndex i hi2 _)
  repeat still_step
  refine wpStill_nil ?_
  go_wp2
  go_ret
  refine ⟨rfl, 1, ?_⟩
  rw [← hb.out x rfl]
  rfl

/-- bit i is set -/
def O.put (o : O) (i : Nat) : O := { o with ws := o.ws.set (i / 64) (o.ws.getD (i / 64) 0 ||| 2 ^ (i % 64)) }
theorem O.put_ok {o : O} {i : Nat} {w w' : World} {b : Nat} (ha : o.a = some ⟨b, 0, none⟩) (h : o.ok w) (hm : i / 64 < o.m)
    (hw : w'.heap = (w.setCell ⟨b, i / 64, none⟩ (.int .u64 ((o.ws.getD (i / 64) 0 ||| 2 ^ (i % 64) : Nat) : Int))).heap) : (o.put i).ok w' := by
  have hne : b ≠ o.p := fun e => h.apart (by rw [ha, e]; exact rfl)
  refine ⟨?_, ?_, by show (List.set _ _ _).length = _; rw [List.length_set]; exact h.len, h.fits.set _ (lt64_or (h.fits.at _) (lt64_pow (Nat.mod_lt _ (by omega)))), h.apart, h.made⟩
  · rw [hw, Below.heap_setCell _ _ _ _ (Ne.symm hne)]; exact h.obj
  · have h2 := h.own.set ha (i / 64) (.int .u64 ((o.ws.getD (i / 64) 0 ||| 2 ^ (i % 64) : Nat) : Int)) rfl (by omega)
    rw [U_set] at h2
    exact h2.of_heap hw

theorem set_in (o : O) (i : Nat) (w : World) (h : o.ok w) (hi : i < o.n) (hm : i / 64 < o.m) (hi2 : i < 4611686018427387904) :
    Calls Try.prog 18 #[o.ptr, .int .u64 (i : Int)] w fun e w' => e = .returned o.ptr ∧ (o.put i).ok w' ∧ Only o.foot w w' := by
  obtain ⟨b, ha, hp, hb, hne, _⟩ := h.facts
  refine (set_raw o i w b ha h hi hm hi2).mono ?_
  rintro e w' ⟨rfl, m, rfl⟩
  refine ⟨rfl, O.put_ok ha h hm rfl, ((Only.refl o.foot w).setCell ⟨b, i / 64, none⟩ _ (fun _ => ?_)).drewN m⟩
  exact .inr (by rw [ha]; exact rfl)
end Go.Proofs.Ytgndpckcdageiaa.bs

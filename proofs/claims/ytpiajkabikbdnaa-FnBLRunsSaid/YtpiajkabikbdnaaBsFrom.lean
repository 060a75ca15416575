/-
  Bitsets of words: words, From, FromWithLength; New of the thin package.
-/
import Derived.Test.YtpiajkabikbdnaaBsOps1
import Derived.Test.YtpiajkabikbdnaaBsNew
import Derived.Test.YtpiajkabikbdnaaBsLaw
namespace Go.Proofs.Ytpiajkabikbdnaa.bs
open Go.RowKit Go.Proofs.Ytpiajkabikbdnaa.base Go.Proofs.Ytpiajkabikbdnaa.heap Go.Proofs.Ytpiajkabikbdnaa.bit
set_option linter.unusedVariables false

/-- a list of words of one's own -/
def RetOwn (n : Nat) (l : List Nat) (w : World) (e : Ending) (w' : World) : Prop :=
  ∃ a' cap', e = .returned (.slice a' n cap') ∧ Own 59 1 w' a' n cap' (U l) ∧ a' ≠ none ∧ Same w w' ∧ ∀ k, At a' k → w.heap.size ≤ k ∧ k < w'.heap.size

set_option maxHeartbeats 800000 in
theorem words (a : Option Addr) (n cap : Nat) (l : List Nat) (w : World) (h : RU w a n cap l) (h0 : 0 < n) (hn : n ≤ 1048576) :
    Calls Try.prog 33 #[.slice a n cap] w (RetOwn n l w) := by
  have H := Lib.hid h
  clear h
  go_enter Try.func33, Try.ntmps33
  go_wp2_with (at_builtin; refine wpList_append n (U l) rfl _ _ _ _ rfl slWord rfl (Own.nil _ _ _) rfl (H.out.1.src Try.underlying23) (Nat.zero_add n) rfl (by unfold maxLen; omega) (by omega) ?_)
  intro a' cap' w' hG
  have HG := Lib.hid hG
  clear hG
  go_wp2_with fail
  go_ret
  refine ⟨a', cap', rfl, HG.out.own, fun e => ?_, HG.out.only.mono (fun _ _ f => ?_), fun k hk => ⟨?_, HG.out.own.lt k hk⟩⟩
  · have := (HG.out.nil e).2; omega
  · exact nomatch f
  · rcases HG.out.fresh k hk with f | f
    · exact nomatch f
    · exact f

set_option maxHeartbeats 800000 in
theorem fromLen (n : Nat) (a : Option Addr) (m cap : Nat) (w : World) (hn : n ≤ 67108864) (hm : (n + 63) / 64 ≤ m) (hm2 : m ≤ 1048576) :
    Calls Try.prog 61 #[.int .u64 (n : Int), .slice a m cap] w fun e w' => e = .returned (.pointer (some ⟨w.heap.size, 0, none⟩)) ∧ w' = w.alloc (.cells #[.int .u64 (n : Int), .slice a m cap] 90) := by
  have HW := Lib.hid (wordsNeeded n (by omega))
  generalize (n + 63) / 64 = k at *
  have hkm : (k : Int) ≤ (m : Int) := by omega
  go_enter Try.func61, Try.ntmps61
  go_wp2_with fail
  refine (HW.out _).mono ?_
  rintro e w' ⟨rfl, rfl⟩
  go_wp2_with fail
  go_ret
  exact ⟨rfl, rfl⟩

/-- the bits of words -/
def FromBits (b : List Bool) (w : World) (e : Ending) (w' : World) : Prop := ∃ o : O, e = .returned o.ptr ∧ o.ok w' ∧ o.rep b ∧ Same w w'
theorem from_len (b : List Bool) (a : Option Addr) (m cap : Nat) (l : List Nat) (w : World) (hown : Own 59 1 w a m cap (U l)) (hl : l.length = m) (ha : a ≠ none) (hok : Ok l) (hn : b.length ≤ 1048576) (hr : b.length ≤ 64 * m) (hm2 : m ≤ 1048576) (hb : ∀ i, bit l i = b.getD i false) :
    Calls Try.prog 61 #[.int .u64 (b.length : Int), .slice a m cap] w (FromBits b w) :=
  (fromLen b.length a m cap w (by omega) (by omega) hm2).mono fun e w' ⟨he, hw⟩ => by
    subst hw
    refine ⟨⟨w.heap.size, b.length, a, m, cap, l⟩, he, ⟨heap_alloc_new _ _, ?_, hl, hok, fun hk => ?_, ha⟩, ⟨rfl, hr, hb⟩, (Only.refl _ w).alloc _⟩
    · exact hown.keep ((Only.refl (fun _ => False) w).alloc _) (fun _ _ => id)
    · have := hown.lt _ hk
      exact Nat.lt_irrefl _ this

set_option maxHeartbeats 800000 in
theorem from_all (b : List Bool) (a : Option Addr) (m cap : Nat) (l : List Nat) (w : World) (hown : Own 59 1 w a m cap (U l)) (hl : l.length = m) (ha : a ≠ none) (hok : Ok l) (hn : b.length ≤ 1048576) (hr : b.length = 64 * m) (hb : ∀ i, bit l i = b.getD i false) :
    Calls Try.prog 51 #[.slice a m cap] w (FromBits b w) := by
  have HC := Lib.hid (from_len b a m cap l w hown hl ha hok hn (by omega) (by omega) hb)
  have hm : m ≤ 1048576 := by omega
  have HE : Hid (((b.length : Nat) : Int) = (m : Int) * 64) := Lib.hid (by omega)
  rw [HE.out] at HC
  clear hown hb hok hn hr
  go_enter Try.func51, Try.ntmps51
  go_wp2_with fail
  refine HC.out.mono ?_
  rintro e w' ⟨o, rfl, hok, hrep, hO⟩
  have HF : Hid (FromBits b w (.returned o.ptr) w') := Lib.hid ⟨o, rfl, hok, hrep, hO⟩
  clear hok hrep hO
  go_wp2_with fail
  go_ret
  exact HF.out
end Go.Proofs.Ytpiajkabikbdnaa.bs

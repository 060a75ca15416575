/-
  The set operations of the thin package on bitsets of one length, said for a law that calls several of them; De Morgan's laws of lists of bits.
-/
import Derived.Test.YthnfoiaemeklnaaBsSetI
import Derived.Test.YthnfoiaemeklnaaBsTwo
namespace Go.Proofs.Ythnfoiaemeklnaa.bs
open Go.RowKit Go.Proofs.Ythnfoiaemeklnaa.base Go.Proofs.Ythnfoiaemeklnaa.heap Go.Proofs.Ythnfoiaemeklnaa.bit
set_option linter.unusedVariables false

/-- Bits of a known length, from the world w0 on -/
def FL (w0 : World) (L : Nat) (d : List Bool) (e : Ending) (w' : World) : Prop := ∃ a m cap, e = .returned (.agg #[.int .u64 (L : Int), .slice a m cap]) ∧ RU w' a m cap (ones d) ∧ Same w0 w'
theorem fl {P : Program} {f : FuncId} {args : Array Value} {w : World} {L : Nat} {d d' : List Bool} (he : d' = d) (hd : d.length = L) (h : Calls P f args w (RetBits d' w)) : Calls P f args w (FL w L d) :=
  h.mono fun e w' ⟨a, m, cap, he', hu, hO, _⟩ => ⟨a, m, cap, by rw [← hd, ← he]; exact he', he ▸ hu, hO⟩
theorem BV.mkL {w : World} {L : Nat} {a : Option Addr} {m cap : Nat} {b : List Bool} (hL : b.length = L) (h : RU w a m cap (ones b)) : BV w (.agg #[.int .u64 (L : Int), .slice a m cap]) b := by
  subst hL; exact BV.mk h

section
variable {L : Nat} {b b' d : List Bool}
theorem cComp (hb : b.length = L) (hd : notL b = d) (hL : L ≤ 1000) (a : Option Addr) (m cap : Nat) (w : World) (h : RU w a m cap (ones b)) :
    Calls Try.prog 34 #[.agg #[.int .u64 (L : Int), .slice a m cap]] w (FL w L d) :=
  fl hd (by rw [← hd, notL_len]; exact hb) (implComplement _ b w (BV.mkL hb h) (by omega))
theorem cSetAll (hb : b.length = L) (hd : List.replicate L true = d) (hL : L ≤ 1000) (a : Option Addr) (m cap : Nat) (w : World) (h : RU w a m cap (ones b)) :
    Calls Try.prog 39 #[.agg #[.int .u64 (L : Int), .slice a m cap]] w (FL w L d) :=
  fl (by rw [hb]; exact hd) (by rw [← hd]; simp) (implSetAll _ b w (BV.mkL hb h) (by omega))
theorem cUnion (hb : b.length = L) (hb' : b'.length = L) (hd : twoL (fun x y => x || y) b b' L = d) (hL : L ≤ 1000) (a a' : Option Addr) (m cap m' cap' : Nat) (w : World) (h : RU w a m cap (ones b)) (h' : RU w a' m' cap' (ones b')) :
    Calls Try.prog 36 #[.agg #[.int .u64 (L : Int), .slice a m cap], .agg #[.int .u64 (L : Int), .slice a' m' cap']] w (FL w L d) :=
  fl (by rw [hb, hb', Nat.max_self]; exact hd) (by rw [← hd, twoL_len]) (implUnion _ _ b b' w (BV.mkL hb h) (BV.mkL hb' h') (by omega) (by omega))
theorem cInter (hb : b.length = L) (hb' : b'.length = L) (hd : twoL (fun x y => x && y) b b' L = d) (hL : L ≤ 1000) (a a' : Option Addr) (m cap m' cap' : Nat) (w : World) (h : RU w a m cap (ones b)) (h' : RU w a' m' cap' (ones b')) :
    Calls Try.prog 37 #[.agg #[.int .u64 (L : Int), .slice a m cap], .agg #[.int .u64 (L : Int), .slice a' m' cap']] w (FL w L d) :=
  fl (by rw [hb, hb', Nat.min_self]; exact hd) (by rw [← hd, twoL_len]) (implIntersection _ _ b b' w (BV.mkL hb h) (BV.mkL hb' h') (by omega) (by omega))
theorem cDiff (hb : b.length = L) (hb' : b'.length = L) (hd : twoL (fun x y => x && !y) b b' L = d) (hL : L ≤ 1000) (a a' : Option Addr) (m cap m' cap' : Nat) (w : World) (h : RU w a m cap (ones b)) (h' : RU w a' m' cap' (ones b')) :
    Calls Try.prog 38 #[.agg #[.int .u64 (L : Int), .slice a m cap], .agg #[.int .u64 (L : Int), .slice a' m' cap']] w (FL w L d) :=
  fl (by rw [hb]; exact hd) (by rw [← hd, twoL_len]) (implDifference _ _ b b' w (BV.mkL hb h) (BV.mkL hb' h') (by omega) (by omega))
theorem cList (hb : b.length = L) (he : b = b') (hL : L ≤ 1000) (a a' : Option Addr) (m cap m' cap' : Nat) (w : World) (h : RU w a m cap (ones b)) (h' : RU w a' m' cap' (ones b')) :
    Calls Try.prog 35 #[.slice a m cap, .slice a' m' cap'] w (FV w (.bool true)) := by
  subst he
  have h1 := ones_le b
  have h2 := h.2
  have h3 := h'.2
  have h4 := fquiet (Only.refl _ w) (bsList a a' m m' cap cap' (ones b) (ones b) w h h' (by omega) (by omega))
  rwa [decide_eq_true rfl] at h4
end

theorem morgan1 {L : Nat} {b b' : List Bool} (hb : b.length = L) (hb' : b'.length = L) : notL (twoL (fun x y => x || y) b b' L) = twoL (fun x y => x && y) (notL b) (notL b') L := by
  refine ext_getD (by rw [notL_len, twoL_len, twoL_len]) fun i hi => ?_
  rw [notL_len, twoL_len] at hi
  rw [notL_get, twoL_len, twoL_get, twoL_get, notL_get, notL_get, hb, hb']
  simp [hi]
theorem morgan2 {L : Nat} {b b' : List Bool} (hb : b.length = L) (hb' : b'.length = L) :
    twoL (fun x y => x || y) (notL b) (notL b') L = twoL (fun x y => x && !y) (List.replicate L true) (twoL (fun x y => x && y) b b' L) L := by
  refine ext_getD (by rw [twoL_len, twoL_len]) fun i hi => ?_
  rw [twoL_len] at hi
  rw [twoL_get, twoL_get, twoL_get, notL_get, notL_get, hb, hb', ones_get]
  simp [hi]
/-- the field In of a value of type Bits -/
theorem run_In (w : World) (L : Nat) (a : Option Addr) (m cap : Nat) : (Instr.field 25 (Value.agg #[Value.int IntKind.u64 (L : Int), Value.slice a m cap]) 1).run Try.prog w = .ok (.slice a m cap) w := by
  rfl
end Go.Proofs.Ythnfoiaemeklnaa.bs

/-
  laws.baTwo over two dense arrays.
-/
import Derived.Test.YtacjkbljokjdkaaGreatBaTwoW
import Derived.Test.YtacjkbljokjdkaaGreatArr2
namespace Go.Proofs.YtacjkbljokjdkaaGreat.ba
open Go.RowKit Go.Proofs.YtacjkbljokjdkaaGreat.base Go.Proofs.YtacjkbljokjdkaaGreat.heap Go.Proofs.YtacjkbljokjdkaaGreat.rows Go.Proofs.YtacjkbljokjdkaaGreat.bit Go.Proofs.YtacjkbljokjdkaaGreat.bs
set_option linter.unusedVariables false
theorem madeCD {s on n c : Nat} {a : Option Addr} {l : List Nat} (hs : s < 65536) (hon : on < 1000) : MadeC true s on a n c l (1 + s % 512) ((1 + s % 512 + 63) / 64) :=
  fun wx h => baMadeD s on a n c l wx h hs hon
theorem fitsShorter (q1 q2 : Nat) (A B : List Nat) : FitsC 17 true true q1 q2 A B (decide (q1 ≤ q2)) :=
  fun sa sc sb scb wx _ _ => baNoShorter true true q1 q2 sa sb _ _ sc scb wx
set_option maxRecDepth 100000 in
set_option maxHeartbeats 1600000 in
theorem baAnyW (d1 d2 : Bool) (q1 q2 : Nat) (a1 a2 : Option Addr) (n1 n2 c1 c2 : Nat) (w : World) : Calls Tryz.prog 18 #[bav d1 q1 a1 n1 c1, bav d2 q2 a2 n2 c2] w (FV w (.bool true)) := by
  unfold bav
  have HS : Hid (∀ A B : Obj, Same w ((w.alloc A).alloc B)) := Lib.hid (fun A B => ((Only.refl _ _).alloc _).alloc _)
  go_enter Tryz.func18, Tryz.ntmps18
  go_wp2_with fail
  go_ret
  exact ⟨rfl, HS.out _ _⟩
theorem fitsAny (x y : Bool) (q1 q2 : Nat) (A B : List Nat) : FitsC 18 x y q1 q2 A B true := fun sa sc sb scb wx _ _ => baAnyW x y q1 q2 sa sb _ _ sc scb wx
theorem PutP.mk {l : List Nat} {a : Option Addr} {w w' : World} {e : Ending} (h : PutP l a w e w') : MkP l w e w' := by
  obtain ⟨a', c', h1, h2, h3, _⟩ := h
  exact ⟨a', c', h1, h2, h3⟩
theorem makesNand {A B : List Nat} (hA : A.length ≤ 1000000) (hB : Asc B) : MakesC 16 A B (nandL A B) :=
  fun sa sc sb scb wx h1 h2 => (baNand h1.rl h2.rl hB hA).mono fun e w' h => h.mk
theorem nandL_len (A B : List Nat) : (nandL A B).length ≤ A.length := List.length_filter_le _ _
end Go.Proofs.YtacjkbljokjdkaaGreat.ba

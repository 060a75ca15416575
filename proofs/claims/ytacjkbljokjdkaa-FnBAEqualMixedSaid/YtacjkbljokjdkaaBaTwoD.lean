/-
  laws.baTwo over two dense arrays.
-/
import Derived.Test.YtacjkbljokjdkaaBaTwoW
import Derived.Test.YtacjkbljokjdkaaArr2
namespace Go.Proofs.Ytacjkbljokjdkaa.ba
open Go.RowKit Go.Proofs.Ytacjkbljokjdkaa.base Go.Proofs.Ytacjkbljokjdkaa.heap Go.Proofs.Ytacjkbljokjdkaa.rows Go.Proofs.Ytacjkbljokjdkaa.bit Go.Proofs.Ytacjkbljokjdkaa.bs
set_option linter.unusedVariables false
theorem madeCD {s on n c : Nat} {a : Option Addr} {l : List Nat} (hs : s < 65536) (hon : on < 1000) : MadeC true s on a n c l (1 + s % 512) ((1 + s % 512 + 63) / 64) :=
  fun wx h => baMadeD s on a n c l wx h hs hon
theorem PutP.mk {l : List Nat} {a : Option Addr} {w w' : World} {e : Ending} (h : PutP l a w e w') : MkP l w e w' := by
  obtain ⟨a', c', h1, h2, h3, _⟩ := h
  exact ⟨a', c', h1, h2, h3⟩
theorem nandL_len (A B : List Nat) : (nandL A B).length ≤ A.length := List.length_filter_le _ _
end Go.Proofs.Ytacjkbljokjdkaa.ba

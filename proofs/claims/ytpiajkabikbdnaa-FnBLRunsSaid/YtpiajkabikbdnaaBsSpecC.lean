/-
  The reference's functions on truth values: BSMake; bsBits of the statements; BSOf, BSLast.
-/
import Derived.Test.YtpiajkabikbdnaaBsSpecB
namespace Go.Proofs.Ytpiajkabikbdnaa.bs
open Go.RowKit Go.Proofs.Ytpiajkabikbdnaa.base Go.Proofs.Ytpiajkabikbdnaa.heap Go.Proofs.Ytpiajkabikbdnaa.bit
set_option linter.unusedVariables false

/-- Bits of at most so many bits are returned -/
def SomeBits (most : Nat) (w : World) (e : Ending) (w' : World) : Prop := ∃ b : List Bool, b.length ≤ most ∧ RetBits b w e w'

end Go.Proofs.Ytpiajkabikbdnaa.bs

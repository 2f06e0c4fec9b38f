/- The parent of a pointer: the walks. -/
import Derived.Test.YtokhmhbjbclcoaaPo
namespace Go.Proofs.Ytokhmhbjbclcoaa
set_option linter.unusedVariables false
set_option linter.unusedSimpArgs false
open Go.RowKit

/-- The place of the last slash ahead of a place, less than 0 if there is none. -/
def lidx (p : ByteArray) : Nat → Int
  | 0 => -1
  | i + 1 => if bAt p i = 47 then (i : Int) else lidx p i
theorem lidx_max (p : ByteArray) : ∀ i, max (lidx p i) 0 = (lastSl p i : Int)
  | 0 => rfl
  | i + 1 => by
    unfold lidx lastSl
    split
    · omega
    · exact lidx_max p i

end Go.Proofs.Ytokhmhbjbclcoaa

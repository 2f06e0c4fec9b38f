/- Short lists of strings; whether texts are short enough. -/
import Derived.Test.YtokhmhbjbclcoaaRows
import Derived.WalkKit
import Derived.Lib.Hide
import Derived.Deep.LoopGhost
namespace Go.Proofs.Ytokhmhbjbclcoaa
set_option linter.unusedVariables false
set_option linter.unusedSimpArgs false
open Go.RowKit

/-- Strings in a row. -/
def Strs (w : World) (b : Nat) (l : List ByteArray) : Prop := ∀ i, i < l.length → w.cell? ⟨b, i, none⟩ = some (.string (l.getD i ByteArray.empty))

theorem strs1 (w : World) (a : ByteArray) (T : TypeId) : Strs (w.alloc (.cells #[.string a] T)) w.heap.size [a] := by
  intro i hi
  have h0 : i = 0 := by simp at hi; omega
  subst h0
  rw [World.cell?_alloc_mark]; rfl
theorem strs2 (w : World) (a b : ByteArray) (T : TypeId) : Strs (w.alloc (.cells #[.string a, .string b] T)) w.heap.size [a, b] := by
  intro i hi
  have h0 : i = 0 ∨ i = 1 := by simp at hi; omega
  rcases h0 with rfl | rfl <;> (rw [World.cell?_alloc_mark]; rfl)
theorem strs3 (w : World) (a b c : ByteArray) (T : TypeId) : Strs (w.alloc (.cells #[.string a, .string b, .string c] T)) w.heap.size [a, b, c] := by
  intro i hi
  have h0 : i = 0 ∨ i = 1 ∨ i = 2 := by simp at hi; omega
  rcases h0 with rfl | rfl | rfl <;> (rw [World.cell?_alloc_mark]; rfl)

end Go.Proofs.Ytokhmhbjbclcoaa

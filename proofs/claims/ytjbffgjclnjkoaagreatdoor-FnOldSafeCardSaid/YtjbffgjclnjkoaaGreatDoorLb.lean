/- White space at the beginning; the head of a string; short lists of strings. -/
import Derived.Test.YtjbffgjclnjkoaaGreatDoorLa
import Derived.Test.YtjbffgjclnjkoaaGreatDoorSt
namespace Go.Proofs.YtjbffgjclnjkoaaGreatDoor
set_option linter.unusedVariables false
set_option linter.unusedSimpArgs false
open Go.RowKit

theorem newR (w : World) (s : ByteArray) (tw lo : Bool) (T : TypeId) :
    IsR (w.alloc (.cells #[.string s, .int .i64 0, .bool tw, .bool lo, .int .i64 0, .bool false] T)) w.heap.size s tw lo ⟨0, 0, false⟩ := ⟨T, heap_alloc_new w _⟩

end Go.Proofs.YtjbffgjclnjkoaaGreatDoor

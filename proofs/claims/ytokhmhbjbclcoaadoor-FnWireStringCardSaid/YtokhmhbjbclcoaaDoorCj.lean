/- Reading a string: the flags, and what stays. -/
import Derived.Test.YtokhmhbjbclcoaaDoorCp
import Derived.Test.YtokhmhbjbclcoaaDoorUp
import Derived.Test.YtokhmhbjbclcoaaDoorWo
import Derived.Test.YtokhmhbjbclcoaaDoorEo
import Derived.Test.YtokhmhbjbclcoaaDoorEr
import Derived.Test.YtokhmhbjbclcoaaDoorBg
namespace Go.Proofs.YtokhmhbjbclcoaaDoor
set_option linter.unusedVariables false
set_option linter.unusedSimpArgs false
open Go.RowKit

/-- The block of the flags. -/
def Fg (w : World) (fb : Nat) : Prop := ∃ x T, w.heap[fb]? = some (.cells #[.int .u64 x] T (0, 0))
theorem Fg.cell {w : World} {fb : Nat} (h : Fg w fb) : ∃ x, w.cell? ⟨fb, 0, none⟩ = some (.int .u64 x) ∧ w.frozen? ⟨fb, 0, none⟩ = false := by
  obtain ⟨x, T, h⟩ := h
  exact ⟨x, by simp [World.cell?, h], by simp [World.frozen?, h]⟩
theorem Fg.set {w : World} {fb : Nat} (h : Fg w fb) (y : Int) : Fg (w.setCell ⟨fb, 0, none⟩ (.int .u64 y)) fb := by
  obtain ⟨x, T, h⟩ := h; exact ⟨y, T, by rw [heap_setCell h]; rfl⟩
theorem Fg.lt {w : World} {fb : Nat} (h : Fg w fb) : fb < w.heap.size := by obtain ⟨x, T, h⟩ := h; exact lt_of_block h
/-- What stays while a string is read: all but the flags. -/
structure KS (fb b : Nat) (s : ByteArray) (w0 w : World) : Prop where
  mv : Mv fb w0 w
  fg : Fg w fb
  bytes : Lib.Bytes w b 0 s
  lt : b < w.heap.size
  ne : b ≠ fb
theorem KS.below {fb b s w0 w w'} (h : KS fb b s w0 w) (hb : Below w.heap.size w w') : KS fb b s w0 w' := by
  refine ⟨h.mv.trans ⟨hb.os, hb.tape, hb.output, hb.size, fun i hi _ => hb.block i hi⟩, ?_, bytes_block h.bytes (hb.block b h.lt), Nat.lt_of_lt_of_le h.lt hb.size, h.ne⟩
  obtain ⟨x, T, hf⟩ := h.fg
  exact ⟨x, T, (hb.block fb (lt_of_block hf)).trans hf⟩
theorem KS.set {fb b s w0 w} (h : KS fb b s w0 w) (y : Int) : KS fb b s w0 (w.setCell ⟨fb, 0, none⟩ (.int .u64 y)) :=
  ⟨h.mv.setCell _ _, h.fg.set y, bytes_block h.bytes (Below.heap_setCell _ _ _ _ (by simpa using h.ne)), by have := h.lt; simpa [World.setCell] using this, h.ne⟩
theorem KS.drewN {fb b s w0 w} (h : KS fb b s w0 w) (n : Nat) : KS fb b s w0 (w.drewN n) := ⟨h.mv.drewN n, h.fg, h.bytes, h.lt, h.ne⟩
theorem KS.base {fb b s w0 w B} (h : KS fb b s w0 w) (h1 : B ≤ fb) (h2 : B ≤ w0.heap.size) : Below B w0 w := h.mv.below h1 h2
/-- A flag is set. -/
theorem join_k {fb b s w0 w} (h : KS fb b s w0 w) (c : Int) :
    Calls Tryd.prog 70 #[.pointer (some ⟨fb, 0, none⟩), .int .u64 c] w fun e w' => e = .returned (.tuple #[]) ∧ KS fb b s w0 w' := by
  obtain ⟨x, hx, hf⟩ := h.fg.cell
  go_enter Tryd.func70, Tryd.ntmps70
  go_wp2_with fail
  all_goals go_end0
  exact ⟨rfl, h.set _⟩
end Go.Proofs.YtokhmhbjbclcoaaDoor

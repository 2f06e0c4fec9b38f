/-
  DERIVED. GIVEN WITH THE SEED: THE PROGRAM's TIES (one call each: nine closed facts by the kernel) AND EACH ROW's TIE, after the 31st guide's Derived/Test/Toyas{Tie, Card}.lean. No idea stands in it: it is a product of the set-up. Laid BY PROGRAM, IN A SANDBOX (cutbox-door.mjs). By AI agents, Wed Nov 11 2026. No macro, syntax, notation, axiom, sorry.
-/
import Derived.Test.YtokhmhbjbclcoaaDoorRows
import Derived.LaidByTextLater
import Derived.SevenTiedAt
import Derived.LaidSub
import Derived.LaidOnce
namespace Go.Proofs.YtokhmhbjbclcoaaDoor
open Go
set_option maxRecDepth 100000
theorem seatTie1 : Tryd.prog.laidByTextLater [("unicode/utf8.acceptRanges", Rows.laid_unicode_utf8_acceptRanges), ("io.ErrUnexpectedEOF", Rows.laid_io_ErrUnexpectedEOF), ("loop.example/pub-g01450/pub/jsontext_internal_jsonwire.escapeASCII", Rows.laid_loop_example_pub_g01450_pub_jsontext_internal_jsonwire_escapeASCII), ("loop.example/pub-g01450/pub/jsontext_internal_jsonwire.ErrInvalidUTF8", Rows.laid_loop_example_pub_g01450_pub_jsontext_internal_jsonwire_ErrInvalidUTF8)] [.data, .sentinel, .data, .sentinel] true :=
  Program.laidByTextLater_by_one 62 8 129 (by kernel_rfl) (by kernel_rfl) (by kernel_rfl) (by kernel_rfl) (by kernel_rfl) (by kernel_rfl) (fun _ _ => by kernel_rfl)
theorem pin_laid_unicode_utf8_first : Tryd.pinned.checked.prog.pinnedFits "unicode/utf8.first" = true := by kernel_rfl
theorem noOwnUnsafe : Tryd.pinned.checked.prog.headLifts.contains "ownunsafe" = false := by kernel_rfl
theorem fits1 : Tryd.pinned.checked.prog.listedFits [("unicode/utf8.acceptRanges", Rows.laid_unicode_utf8_acceptRanges), ("io.ErrUnexpectedEOF", Rows.laid_io_ErrUnexpectedEOF), ("unicode/utf8.first", Rows.laid_unicode_utf8_first)] = true := by
  unfold Program.listedFits
  rw [noOwnUnsafe]
  kernel_rfl
theorem tie : Tryd.prog.laidByTextLater [("unicode/utf8.acceptRanges", Rows.laid_unicode_utf8_acceptRanges), ("io.ErrUnexpectedEOF", Rows.laid_io_ErrUnexpectedEOF)] [.data, .sentinel] true :=
  Program.laidByTextLater.sub seatTie1 ["unicode/utf8.acceptRanges", "io.ErrUnexpectedEOF"] (by kernel_rfl) (by kernel_rfl)
theorem fnWireNumber_row_tie : Rows.fnWireNumberRow.laidByTextAt .later Tryd.pinned [.data, .sentinel, .pinned] true :=
  OpenClaim.laidByTextAt_pinned rfl rfl tie rfl rfl rfl rfl (fun y hy _e => by
    simp only [Rows.fnWireNumberRow, List.zip_cons_cons, List.zip_nil_right, List.mem_cons, List.mem_nil_iff, or_false] at hy
    rcases hy with rfl | rfl | rfl
    · cases _e
    · cases _e
    · exact ⟨pin_laid_unicode_utf8_first, by kernel_rfl⟩) fits1
theorem fits2 : Tryd.pinned.checked.prog.listedFits [("unicode/utf8.acceptRanges", Rows.laid_unicode_utf8_acceptRanges), ("unicode/utf8.first", Rows.laid_unicode_utf8_first)] = true := by
  unfold Program.listedFits
  rw [noOwnUnsafe]
  kernel_rfl
theorem tie2 : Tryd.prog.laidByTextLater [("unicode/utf8.acceptRanges", Rows.laid_unicode_utf8_acceptRanges)] [.data] true :=
  Program.laidByTextLater.sub seatTie1 ["unicode/utf8.acceptRanges"] (by kernel_rfl) (by kernel_rfl)
theorem fnOldUnquoteRefuses_row_tie : Rows.fnOldUnquoteRefusesRow.laidByTextAt .later Tryd.pinned [.data, .pinned] true :=
  OpenClaim.laidByTextAt_pinned rfl rfl tie2 rfl rfl rfl rfl (fun y hy _e => by
    simp only [Rows.fnOldUnquoteRefusesRow, List.zip_cons_cons, List.zip_nil_right, List.mem_cons, List.mem_nil_iff, or_false] at hy
    rcases hy with rfl | rfl
    · cases _e
    · exact ⟨pin_laid_unicode_utf8_first, by kernel_rfl⟩) fits2
theorem fits3 : Tryd.pinned.checked.prog.listedFits [("unicode/utf8.acceptRanges", Rows.laid_unicode_utf8_acceptRanges), ("io.ErrUnexpectedEOF", Rows.laid_io_ErrUnexpectedEOF), ("loop.example/pub-g01450/pub/jsontext_internal_jsonwire.ErrInvalidUTF8", Rows.laid_loop_example_pub_g01450_pub_jsontext_internal_jsonwire_ErrInvalidUTF8), ("unicode/utf8.first", Rows.laid_unicode_utf8_first)] = true := by
  unfold Program.listedFits
  rw [noOwnUnsafe]
  kernel_rfl
theorem tie3 : Tryd.prog.laidByTextLater [("unicode/utf8.acceptRanges", Rows.laid_unicode_utf8_acceptRanges), ("io.ErrUnexpectedEOF", Rows.laid_io_ErrUnexpectedEOF), ("loop.example/pub-g01450/pub/jsontext_internal_jsonwire.ErrInvalidUTF8", Rows.laid_loop_example_pub_g01450_pub_jsontext_internal_jsonwire_ErrInvalidUTF8)] [.data, .sentinel, .sentinel] true :=
  Program.laidByTextLater.sub seatTie1 ["unicode/utf8.acceptRanges", "io.ErrUnexpectedEOF", "loop.example/pub-g01450/pub/jsontext_internal_jsonwire.ErrInvalidUTF8"] (by kernel_rfl) (by kernel_rfl)
theorem fnUnquote_row_tie : Rows.fnUnquoteRow.laidByTextAt .later Tryd.pinned [.data, .sentinel, .sentinel, .pinned] true :=
  OpenClaim.laidByTextAt_pinned rfl rfl tie3 rfl rfl rfl rfl (fun y hy _e => by
    simp only [Rows.fnUnquoteRow, List.zip_cons_cons, List.zip_nil_right, List.mem_cons, List.mem_nil_iff, or_false] at hy
    rcases hy with rfl | rfl | rfl | rfl
    · cases _e
    · cases _e
    · cases _e
    · exact ⟨pin_laid_unicode_utf8_first, by kernel_rfl⟩) fits3
theorem fnUnquoteJoin_row_tie : Rows.fnUnquoteJoinRow.laidByTextAt .later Tryd.pinned [.data, .sentinel, .sentinel, .pinned] true :=
  OpenClaim.laidByTextAt_pinned rfl rfl tie3 rfl rfl rfl rfl (fun y hy _e => by
    simp only [Rows.fnUnquoteJoinRow, List.zip_cons_cons, List.zip_nil_right, List.mem_cons, List.mem_nil_iff, or_false] at hy
    rcases hy with rfl | rfl | rfl | rfl
    · cases _e
    · cases _e
    · cases _e
    · exact ⟨pin_laid_unicode_utf8_first, by kernel_rfl⟩) fits3
theorem fnWireString_row_tie : Rows.fnWireStringRow.laidByTextAt .later Tryd.pinned [.data, .sentinel, .sentinel, .pinned] true :=
  OpenClaim.laidByTextAt_pinned rfl rfl tie3 rfl rfl rfl rfl (fun y hy _e => by
    simp only [Rows.fnWireStringRow, List.zip_cons_cons, List.zip_nil_right, List.mem_cons, List.mem_nil_iff, or_false] at hy
    rcases hy with rfl | rfl | rfl | rfl
    · cases _e
    · cases _e
    · cases _e
    · exact ⟨pin_laid_unicode_utf8_first, by kernel_rfl⟩) fits3
theorem fits4 : Tryd.pinned.checked.prog.listedFits [("unicode/utf8.acceptRanges", Rows.laid_unicode_utf8_acceptRanges), ("io.ErrUnexpectedEOF", Rows.laid_io_ErrUnexpectedEOF), ("loop.example/pub-g01450/pub/jsontext_internal_jsonwire.escapeASCII", Rows.laid_loop_example_pub_g01450_pub_jsontext_internal_jsonwire_escapeASCII), ("loop.example/pub-g01450/pub/jsontext_internal_jsonwire.ErrInvalidUTF8", Rows.laid_loop_example_pub_g01450_pub_jsontext_internal_jsonwire_ErrInvalidUTF8), ("unicode/utf8.first", Rows.laid_unicode_utf8_first)] = true := by
  unfold Program.listedFits
  rw [noOwnUnsafe]
  kernel_rfl
theorem tie4 : Tryd.prog.laidByTextLater [("unicode/utf8.acceptRanges", Rows.laid_unicode_utf8_acceptRanges), ("io.ErrUnexpectedEOF", Rows.laid_io_ErrUnexpectedEOF), ("loop.example/pub-g01450/pub/jsontext_internal_jsonwire.escapeASCII", Rows.laid_loop_example_pub_g01450_pub_jsontext_internal_jsonwire_escapeASCII), ("loop.example/pub-g01450/pub/jsontext_internal_jsonwire.ErrInvalidUTF8", Rows.laid_loop_example_pub_g01450_pub_jsontext_internal_jsonwire_ErrInvalidUTF8)] [.data, .sentinel, .data, .sentinel] true :=
  Program.laidByTextLater.sub seatTie1 ["unicode/utf8.acceptRanges", "io.ErrUnexpectedEOF", "loop.example/pub-g01450/pub/jsontext_internal_jsonwire.escapeASCII", "loop.example/pub-g01450/pub/jsontext_internal_jsonwire.ErrInvalidUTF8"] (by kernel_rfl) (by kernel_rfl)
theorem fnBackAndThere_row_tie : Rows.fnBackAndThereRow.laidByTextAt .later Tryd.pinned [.data, .sentinel, .data, .sentinel, .pinned] true :=
  OpenClaim.laidByTextAt_pinned rfl rfl tie4 rfl rfl rfl rfl (fun y hy _e => by
    simp only [Rows.fnBackAndThereRow, List.zip_cons_cons, List.zip_nil_right, List.mem_cons, List.mem_nil_iff, or_false] at hy
    rcases hy with rfl | rfl | rfl | rfl | rfl
    · cases _e
    · cases _e
    · cases _e
    · cases _e
    · exact ⟨pin_laid_unicode_utf8_first, by kernel_rfl⟩) fits4
theorem fnWireNumberUpto_row_tie : Rows.fnWireNumberUptoRow.laidByTextAt .later Tryd.pinned [.data, .sentinel, .pinned] true :=
  OpenClaim.laidByTextAt_pinned rfl rfl tie rfl rfl rfl rfl (fun y hy _e => by
    simp only [Rows.fnWireNumberUptoRow, List.zip_cons_cons, List.zip_nil_right, List.mem_cons, List.mem_nil_iff, or_false] at hy
    rcases hy with rfl | rfl | rfl
    · cases _e
    · cases _e
    · exact ⟨pin_laid_unicode_utf8_first, by kernel_rfl⟩) fits1
theorem fnOldUnquoteRefusesUpto_row_tie : Rows.fnOldUnquoteRefusesUptoRow.laidByTextAt .later Tryd.pinned [.data, .pinned] true :=
  OpenClaim.laidByTextAt_pinned rfl rfl tie2 rfl rfl rfl rfl (fun y hy _e => by
    simp only [Rows.fnOldUnquoteRefusesUptoRow, List.zip_cons_cons, List.zip_nil_right, List.mem_cons, List.mem_nil_iff, or_false] at hy
    rcases hy with rfl | rfl
    · cases _e
    · exact ⟨pin_laid_unicode_utf8_first, by kernel_rfl⟩) fits2
theorem fnUnquoteUpto_row_tie : Rows.fnUnquoteUptoRow.laidByTextAt .later Tryd.pinned [.data, .sentinel, .sentinel, .pinned] true :=
  OpenClaim.laidByTextAt_pinned rfl rfl tie3 rfl rfl rfl rfl (fun y hy _e => by
    simp only [Rows.fnUnquoteUptoRow, List.zip_cons_cons, List.zip_nil_right, List.mem_cons, List.mem_nil_iff, or_false] at hy
    rcases hy with rfl | rfl | rfl | rfl
    · cases _e
    · cases _e
    · cases _e
    · exact ⟨pin_laid_unicode_utf8_first, by kernel_rfl⟩) fits3
theorem fnUnquoteJoinUpto_row_tie : Rows.fnUnquoteJoinUptoRow.laidByTextAt .later Tryd.pinned [.data, .sentinel, .sentinel, .pinned] true :=
  OpenClaim.laidByTextAt_pinned rfl rfl tie3 rfl rfl rfl rfl (fun y hy _e => by
    simp only [Rows.fnUnquoteJoinUptoRow, List.zip_cons_cons, List.zip_nil_right, List.mem_cons, List.mem_nil_iff, or_false] at hy
    rcases hy with rfl | rfl | rfl | rfl
    · cases _e
    · cases _e
    · cases _e
    · exact ⟨pin_laid_unicode_utf8_first, by kernel_rfl⟩) fits3
theorem fnWireStringUpto_row_tie : Rows.fnWireStringUptoRow.laidByTextAt .later Tryd.pinned [.data, .sentinel, .sentinel, .pinned] true :=
  OpenClaim.laidByTextAt_pinned rfl rfl tie3 rfl rfl rfl rfl (fun y hy _e => by
    simp only [Rows.fnWireStringUptoRow, List.zip_cons_cons, List.zip_nil_right, List.mem_cons, List.mem_nil_iff, or_false] at hy
    rcases hy with rfl | rfl | rfl | rfl
    · cases _e
    · cases _e
    · cases _e
    · exact ⟨pin_laid_unicode_utf8_first, by kernel_rfl⟩) fits3
theorem fnBackAndThereUpto_row_tie : Rows.fnBackAndThereUptoRow.laidByTextAt .later Tryd.pinned [.data, .sentinel, .data, .sentinel, .pinned] true :=
  OpenClaim.laidByTextAt_pinned rfl rfl tie4 rfl rfl rfl rfl (fun y hy _e => by
    simp only [Rows.fnBackAndThereUptoRow, List.zip_cons_cons, List.zip_nil_right, List.mem_cons, List.mem_nil_iff, or_false] at hy
    rcases hy with rfl | rfl | rfl | rfl | rfl
    · cases _e
    · cases _e
    · cases _e
    · cases _e
    · exact ⟨pin_laid_unicode_utf8_first, by kernel_rfl⟩) fits4
end Go.Proofs.YtokhmhbjbclcoaaDoor

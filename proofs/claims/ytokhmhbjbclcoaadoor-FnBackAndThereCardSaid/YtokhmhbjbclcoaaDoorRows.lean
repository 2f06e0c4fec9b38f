/-
  NARROWER THAN 'FOR EVERY INPUT', by the rows' own cells (each row's printed sentence says how): FnWireNumber: laid · FnOldUnquoteRefuses: laid · FnUnquote: ifaces, laid · FnUnquoteJoin: ifaces, laid · FnWireString: ifaces, laid · FnBackAndThere: ifaces, laid.
  DERIVED. THE GIVEN ROWS OF THIS SEAT. 6 by the template 'for every input the law returns true; each argument reads behind the call as it read before'; 0 by the template 'total and deterministic' (their statements: YtokhmhbjbclcoaaDoorTotals.lean).
  GIVEN WITH THE SEED: the statements are not yours to turn. If you find one false, say at which input.
  Laid BY PROGRAM, IN A SANDBOX (cutbox-rows.mjs): the forced cells as the released guide's own fill.sh prints them over the translation 6cf327113339b61a… (all of the seat's roots in one cut). By AI agents, Wed Nov 11 2026. No macro, syntax, notation, axiom, sorry.
-/
import Derived.Test.YtokhmhbjbclcoaaDoorChecked
import GoSem.PinnedTables
import GoSem.Claim
import GoSem.ClaimJoined
import GoSem.ClaimMapViews
import Derived.JoinedTies
import Derived.KernelRfl
namespace Go.Proofs.YtokhmhbjbclcoaaDoor
/- THE CELL 'sum', in the pinned program and in every row, IS THE sha256 OF THE DUMP (.gsa) THAT YtokhmhbjbclcoaaDoorProg.lean LOADS. Nothing in Lean hashes anything: it is a label: what it is worth is what the hold of that sum in a sandbox is worth. -/
noncomputable def Tryd.pinned : Pinned := { name := "ytokhmhbjbclcoaadoor", sum := "6cf327113339b61a7aa0284db60cf105a545f8ccc424e74f5fe9fa5da127dd76", checked := Tryd.checked }
namespace Rows
def none {H : Type} : Left H := { results := [], args := [] }

/- WHAT THE LISTED PACKAGE-LEVEL VARIABLES READ AS WHEN THE CALL BEGINS. Each datum BY PROGRAM (the guide's laid-datum.mjs) off the statement by which the dump's own 'gosem.cut.vars' lays the variable. In a bare row this is a premise. The card (YtokhmhbjbclcoaaDoorCards.lean) ties it to the program's text. -/
def laid_unicode_utf8_acceptRanges {H : Type} : DataW H := .agg [.agg [.lit (.int .u8 128), .lit (.int .u8 191)], .agg [.lit (.int .u8 160), .lit (.int .u8 191)], .agg [.lit (.int .u8 128), .lit (.int .u8 159)], .agg [.lit (.int .u8 144), .lit (.int .u8 191)], .agg [.lit (.int .u8 128), .lit (.int .u8 143)], .agg [.lit (.int .u8 0), .lit (.int .u8 0)], .agg [.lit (.int .u8 0), .lit (.int .u8 0)], .agg [.lit (.int .u8 0), .lit (.int .u8 0)], .agg [.lit (.int .u8 0), .lit (.int .u8 0)], .agg [.lit (.int .u8 0), .lit (.int .u8 0)], .agg [.lit (.int .u8 0), .lit (.int .u8 0)], .agg [.lit (.int .u8 0), .lit (.int .u8 0)], .agg [.lit (.int .u8 0), .lit (.int .u8 0)], .agg [.lit (.int .u8 0), .lit (.int .u8 0)], .agg [.lit (.int .u8 0), .lit (.int .u8 0)], .agg [.lit (.int .u8 0), .lit (.int .u8 0)]]
def laid_io_ErrUnexpectedEOF {H : Type} : DataW H := .iface "*errors.errorString" (.ptr (.agg [.lit (.string [117, 110, 101, 120, 112, 101, 99, 116, 101, 100, 32, 69, 79, 70])]))
/-- One of Go's own tables, pinned by name: the form's constant. -/
def laid_unicode_utf8_first : DataW Unit := Go.Pinned.utf8First
def laid_loop_example_pub_g01450_pub_jsontext_internal_jsonwire_ErrInvalidUTF8 {H : Type} : DataW H := .iface "*errors.errorString" (.ptr (.agg [.lit (.string [105, 110, 118, 97, 108, 105, 100, 32, 85, 84, 70, 45, 56])]))
def laid_loop_example_pub_g01450_pub_jsontext_internal_jsonwire_escapeASCII {H : Type} : DataW H := .agg [.lit (.int .u8 1), .lit (.int .u8 1), .lit (.int .u8 1), .lit (.int .u8 1), .lit (.int .u8 1), .lit (.int .u8 1), .lit (.int .u8 1), .lit (.int .u8 1), .lit (.int .u8 1), .lit (.int .u8 1), .lit (.int .u8 1), .lit (.int .u8 1), .lit (.int .u8 1), .lit (.int .u8 1), .lit (.int .u8 1), .lit (.int .u8 1), .lit (.int .u8 1), .lit (.int .u8 1), .lit (.int .u8 1), .lit (.int .u8 1), .lit (.int .u8 1), .lit (.int .u8 1), .lit (.int .u8 1), .lit (.int .u8 1), .lit (.int .u8 1), .lit (.int .u8 1), .lit (.int .u8 1), .lit (.int .u8 1), .lit (.int .u8 1), .lit (.int .u8 1), .lit (.int .u8 1), .lit (.int .u8 1), .lit (.int .u8 0), .lit (.int .u8 0), .lit (.int .u8 1), .lit (.int .u8 0), .lit (.int .u8 0), .lit (.int .u8 0), .lit (.int .u8 1), .lit (.int .u8 0), .lit (.int .u8 0), .lit (.int .u8 0), .lit (.int .u8 0), .lit (.int .u8 0), .lit (.int .u8 0), .lit (.int .u8 0), .lit (.int .u8 0), .lit (.int .u8 0), .lit (.int .u8 0), .lit (.int .u8 0), .lit (.int .u8 0), .lit (.int .u8 0), .lit (.int .u8 0), .lit (.int .u8 0), .lit (.int .u8 0), .lit (.int .u8 0), .lit (.int .u8 0), .lit (.int .u8 0), .lit (.int .u8 0), .lit (.int .u8 0), .lit (.int .u8 1), .lit (.int .u8 0), .lit (.int .u8 1), .lit (.int .u8 0), .lit (.int .u8 0), .lit (.int .u8 0), .lit (.int .u8 0), .lit (.int .u8 0), .lit (.int .u8 0), .lit (.int .u8 0), .lit (.int .u8 0), .lit (.int .u8 0), .lit (.int .u8 0), .lit (.int .u8 0), .lit (.int .u8 0), .lit (.int .u8 0), .lit (.int .u8 0), .lit (.int .u8 0), .lit (.int .u8 0), .lit (.int .u8 0), .lit (.int .u8 0), .lit (.int .u8 0), .lit (.int .u8 0), .lit (.int .u8 0), .lit (.int .u8 0), .lit (.int .u8 0), .lit (.int .u8 0), .lit (.int .u8 0), .lit (.int .u8 0), .lit (.int .u8 0), .lit (.int .u8 0), .lit (.int .u8 0), .lit (.int .u8 1), .lit (.int .u8 0), .lit (.int .u8 0), .lit (.int .u8 0), .lit (.int .u8 0), .lit (.int .u8 0), .lit (.int .u8 0), .lit (.int .u8 0), .lit (.int .u8 0), .lit (.int .u8 0), .lit (.int .u8 0), .lit (.int .u8 0), .lit (.int .u8 0), .lit (.int .u8 0), .lit (.int .u8 0), .lit (.int .u8 0), .lit (.int .u8 0), .lit (.int .u8 0), .lit (.int .u8 0), .lit (.int .u8 0), .lit (.int .u8 0), .lit (.int .u8 0), .lit (.int .u8 0), .lit (.int .u8 0), .lit (.int .u8 0), .lit (.int .u8 0), .lit (.int .u8 0), .lit (.int .u8 0), .lit (.int .u8 0), .lit (.int .u8 0), .lit (.int .u8 0), .lit (.int .u8 0), .lit (.int .u8 0), .lit (.int .u8 0), .lit (.int .u8 0), .lit (.int .u8 0)]

/-- 'laws.FnWireNumber': WHATEVER THE INPUT: true; the input reads as it did. -/
def fnWireNumberSpec : ChangeSpec := { name := "fnWireNumber", fn := fun _ => fun
  | [d] => { results := [.lit (.bool true)], args := [d] }
  | _ => none }
def fnWireNumberRow : OpenClaim := { program := "ytokhmhbjbclcoaadoor", sum := "6cf327113339b61a7aa0284db60cf105a545f8ccc424e74f5fe9fa5da127dd76", func := "loop.example/pub-g01450/laws.FnWireNumber", spec := "fnWireNumber", inPlace := ["internal/reflectlite.TypeOf"], unfollowed := true, recurses := true, named := ["io.ErrUnexpectedEOF", "unicode/utf8.first", "unicode/utf8.acceptRanges"], apart := false, laid := [("unicode/utf8.acceptRanges", laid_unicode_utf8_acceptRanges), ("io.ErrUnexpectedEOF", laid_io_ErrUnexpectedEOF), ("unicode/utf8.first", laid_unicode_utf8_first)] }
def FnWireNumberSaid : Prop := fnWireNumberRow.holds Tryd.pinned (OpenSpec.ofChange fnWireNumberSpec)

/-- ITS FALSE NEIGHBOUR: 'it returns false'. Refute it at one input. -/
def fnWireNumberWrong : ChangeSpec := { name := "fnWireNumber", fn := fun _ => fun
  | [d] => { results := [.lit (.bool false)], args := [d] }
  | _ => none }
def FnWireNumberWrongFalsely : Prop := fnWireNumberRow.holds Tryd.pinned (OpenSpec.ofChange fnWireNumberWrong)

/-- 'laws.FnOldUnquoteRefuses': WHATEVER THE INPUT: true; the input reads as it did. -/
def fnOldUnquoteRefusesSpec : ChangeSpec := { name := "fnOldUnquoteRefuses", fn := fun _ => fun
  | [d] => { results := [.lit (.bool true)], args := [d] }
  | _ => none }
def fnOldUnquoteRefusesRow : OpenClaim := { program := "ytokhmhbjbclcoaadoor", sum := "6cf327113339b61a7aa0284db60cf105a545f8ccc424e74f5fe9fa5da127dd76", func := "loop.example/pub-g01450/laws.FnOldUnquoteRefuses", spec := "fnOldUnquoteRefuses", recurses := true, named := ["unicode/utf8.first", "unicode/utf8.acceptRanges"], apart := false, laid := [("unicode/utf8.acceptRanges", laid_unicode_utf8_acceptRanges), ("unicode/utf8.first", laid_unicode_utf8_first)] }
def FnOldUnquoteRefusesSaid : Prop := fnOldUnquoteRefusesRow.holds Tryd.pinned (OpenSpec.ofChange fnOldUnquoteRefusesSpec)

/-- ITS FALSE NEIGHBOUR: 'it returns false'. Refute it at one input. -/
def fnOldUnquoteRefusesWrong : ChangeSpec := { name := "fnOldUnquoteRefuses", fn := fun _ => fun
  | [d] => { results := [.lit (.bool false)], args := [d] }
  | _ => none }
def FnOldUnquoteRefusesWrongFalsely : Prop := fnOldUnquoteRefusesRow.holds Tryd.pinned (OpenSpec.ofChange fnOldUnquoteRefusesWrong)

/-- 'laws.FnUnquote': WHATEVER THE INPUT: true; the input reads as it did. -/
def fnUnquoteSpec : ChangeSpec := { name := "fnUnquote", vars := ["loop.example/pub-g01450/pub/jsontext_internal_jsonwire.ErrInvalidUTF8"], fn := fun _ => fun
  | [d1, d2, g1] => { results := [.lit (.bool true)], args := [d1, d2], vars := [g1] }
  | _ => none }
def fnUnquoteRow : OpenClaim := { program := "ytokhmhbjbclcoaadoor", sum := "6cf327113339b61a7aa0284db60cf105a545f8ccc424e74f5fe9fa5da127dd76", func := "loop.example/pub-g01450/laws.FnUnquote", spec := "fnUnquote", unfollowed := true, recurses := true, named := ["io.ErrUnexpectedEOF", "loop.example/pub-g01450/pub/jsontext_internal_jsonwire.ErrInvalidUTF8", "unicode/utf8.first", "unicode/utf8.acceptRanges"], ifaces := true, apart := false, laid := [("unicode/utf8.acceptRanges", laid_unicode_utf8_acceptRanges), ("io.ErrUnexpectedEOF", laid_io_ErrUnexpectedEOF), ("loop.example/pub-g01450/pub/jsontext_internal_jsonwire.ErrInvalidUTF8", laid_loop_example_pub_g01450_pub_jsontext_internal_jsonwire_ErrInvalidUTF8), ("unicode/utf8.first", laid_unicode_utf8_first)] }
def FnUnquoteSaid : Prop := fnUnquoteRow.holds Tryd.pinned (OpenSpec.ofChange fnUnquoteSpec)

/-- ITS FALSE NEIGHBOUR: 'it returns false'. Refute it at one input. -/
def fnUnquoteWrong : ChangeSpec := { name := "fnUnquote", vars := ["loop.example/pub-g01450/pub/jsontext_internal_jsonwire.ErrInvalidUTF8"], fn := fun _ => fun
  | [d1, d2, g1] => { results := [.lit (.bool false)], args := [d1, d2], vars := [g1] }
  | _ => none }
def FnUnquoteWrongFalsely : Prop := fnUnquoteRow.holds Tryd.pinned (OpenSpec.ofChange fnUnquoteWrong)

/-- 'laws.FnUnquoteJoin': WHATEVER THE INPUT: true; the input reads as it did. -/
def fnUnquoteJoinSpec : ChangeSpec := { name := "fnUnquoteJoin", vars := ["loop.example/pub-g01450/pub/jsontext_internal_jsonwire.ErrInvalidUTF8"], fn := fun _ => fun
  | [d1, d2, g1] => { results := [.lit (.bool true)], args := [d1, d2], vars := [g1] }
  | _ => none }
def fnUnquoteJoinRow : OpenClaim := { program := "ytokhmhbjbclcoaadoor", sum := "6cf327113339b61a7aa0284db60cf105a545f8ccc424e74f5fe9fa5da127dd76", func := "loop.example/pub-g01450/laws.FnUnquoteJoin", spec := "fnUnquoteJoin", unfollowed := true, recurses := true, named := ["io.ErrUnexpectedEOF", "loop.example/pub-g01450/pub/jsontext_internal_jsonwire.ErrInvalidUTF8", "unicode/utf8.first", "unicode/utf8.acceptRanges"], ifaces := true, apart := false, laid := [("unicode/utf8.acceptRanges", laid_unicode_utf8_acceptRanges), ("io.ErrUnexpectedEOF", laid_io_ErrUnexpectedEOF), ("loop.example/pub-g01450/pub/jsontext_internal_jsonwire.ErrInvalidUTF8", laid_loop_example_pub_g01450_pub_jsontext_internal_jsonwire_ErrInvalidUTF8), ("unicode/utf8.first", laid_unicode_utf8_first)] }
def FnUnquoteJoinSaid : Prop := fnUnquoteJoinRow.holds Tryd.pinned (OpenSpec.ofChange fnUnquoteJoinSpec)

/-- ITS FALSE NEIGHBOUR: 'it returns false'. Refute it at one input. -/
def fnUnquoteJoinWrong : ChangeSpec := { name := "fnUnquoteJoin", vars := ["loop.example/pub-g01450/pub/jsontext_internal_jsonwire.ErrInvalidUTF8"], fn := fun _ => fun
  | [d1, d2, g1] => { results := [.lit (.bool false)], args := [d1, d2], vars := [g1] }
  | _ => none }
def FnUnquoteJoinWrongFalsely : Prop := fnUnquoteJoinRow.holds Tryd.pinned (OpenSpec.ofChange fnUnquoteJoinWrong)

/-- 'laws.FnWireString': WHATEVER THE INPUT: true; the input reads as it did. -/
def fnWireStringSpec : ChangeSpec := { name := "fnWireString", vars := ["loop.example/pub-g01450/pub/jsontext_internal_jsonwire.ErrInvalidUTF8"], fn := fun _ => fun
  | [d1, d2, g1] => { results := [.lit (.bool true)], args := [d1, d2], vars := [g1] }
  | _ => none }
def fnWireStringRow : OpenClaim := { program := "ytokhmhbjbclcoaadoor", sum := "6cf327113339b61a7aa0284db60cf105a545f8ccc424e74f5fe9fa5da127dd76", func := "loop.example/pub-g01450/laws.FnWireString", spec := "fnWireString", inPlace := ["internal/reflectlite.TypeOf"], unfollowed := true, recurses := true, named := ["io.ErrUnexpectedEOF", "loop.example/pub-g01450/pub/jsontext_internal_jsonwire.ErrInvalidUTF8", "unicode/utf8.first", "unicode/utf8.acceptRanges"], ifaces := true, apart := false, laid := [("unicode/utf8.acceptRanges", laid_unicode_utf8_acceptRanges), ("io.ErrUnexpectedEOF", laid_io_ErrUnexpectedEOF), ("loop.example/pub-g01450/pub/jsontext_internal_jsonwire.ErrInvalidUTF8", laid_loop_example_pub_g01450_pub_jsontext_internal_jsonwire_ErrInvalidUTF8), ("unicode/utf8.first", laid_unicode_utf8_first)] }
def FnWireStringSaid : Prop := fnWireStringRow.holds Tryd.pinned (OpenSpec.ofChange fnWireStringSpec)

/-- ITS FALSE NEIGHBOUR: 'it returns false'. Refute it at one input. -/
def fnWireStringWrong : ChangeSpec := { name := "fnWireString", vars := ["loop.example/pub-g01450/pub/jsontext_internal_jsonwire.ErrInvalidUTF8"], fn := fun _ => fun
  | [d1, d2, g1] => { results := [.lit (.bool false)], args := [d1, d2], vars := [g1] }
  | _ => none }
def FnWireStringWrongFalsely : Prop := fnWireStringRow.holds Tryd.pinned (OpenSpec.ofChange fnWireStringWrong)

/-- 'laws.FnBackAndThere': WHATEVER THE INPUT: true; the input reads as it did. -/
def fnBackAndThereSpec : ChangeSpec := { name := "fnBackAndThere", vars := ["loop.example/pub-g01450/pub/jsontext_internal_jsonwire.ErrInvalidUTF8", "loop.example/pub-g01450/pub/jsontext_internal_jsonwire.escapeASCII"], fn := fun _ => fun
  | [d, g1, g2] => { results := [.lit (.bool true)], args := [d], vars := [g1, g2] }
  | _ => none }
def fnBackAndThereRow : OpenClaim := { program := "ytokhmhbjbclcoaadoor", sum := "6cf327113339b61a7aa0284db60cf105a545f8ccc424e74f5fe9fa5da127dd76", func := "loop.example/pub-g01450/laws.FnBackAndThere", spec := "fnBackAndThere", unfollowed := true, recurses := true, named := ["io.ErrUnexpectedEOF", "loop.example/pub-g01450/pub/jsontext_internal_jsonwire.ErrInvalidUTF8", "unicode/utf8.first", "unicode/utf8.acceptRanges", "loop.example/pub-g01450/pub/jsontext_internal_jsonwire.escapeASCII"], ifaces := true, apart := false, laid := [("unicode/utf8.acceptRanges", laid_unicode_utf8_acceptRanges), ("io.ErrUnexpectedEOF", laid_io_ErrUnexpectedEOF), ("loop.example/pub-g01450/pub/jsontext_internal_jsonwire.escapeASCII", laid_loop_example_pub_g01450_pub_jsontext_internal_jsonwire_escapeASCII), ("loop.example/pub-g01450/pub/jsontext_internal_jsonwire.ErrInvalidUTF8", laid_loop_example_pub_g01450_pub_jsontext_internal_jsonwire_ErrInvalidUTF8), ("unicode/utf8.first", laid_unicode_utf8_first)] }
def FnBackAndThereSaid : Prop := fnBackAndThereRow.holds Tryd.pinned (OpenSpec.ofChange fnBackAndThereSpec)

/-- ITS FALSE NEIGHBOUR: 'it returns false'. Refute it at one input. -/
def fnBackAndThereWrong : ChangeSpec := { name := "fnBackAndThere", vars := ["loop.example/pub-g01450/pub/jsontext_internal_jsonwire.ErrInvalidUTF8", "loop.example/pub-g01450/pub/jsontext_internal_jsonwire.escapeASCII"], fn := fun _ => fun
  | [d, g1, g2] => { results := [.lit (.bool false)], args := [d], vars := [g1, g2] }
  | _ => none }
def FnBackAndThereWrongFalsely : Prop := fnBackAndThereRow.holds Tryd.pinned (OpenSpec.ofChange fnBackAndThereWrong)

/- THE SECOND FORM. 'bulk': how many values and letters a reading holds, each counted each time it is reached (what is shared counts as often as it is met; a slice's spare places count too). A statement '..UptoSaid' is the law's where the arguments, and the package variables that the reading takes, are together of bulk at most 1048576: NARROWER than '..Said'. Prove '..Said' where nothing that the law and all that it calls make is longer than what came in: it says more and counts as full. Else prove '..UptoSaid'. A law counts once. -/
mutual
def uptoBulk {H : Type} : DataW H → Nat
  | .lit (.string bytes) => bytes.length + 1
  | .lit _ => 1
  | .nil => 1
  | .ptr d => uptoBulk d + 1
  | .slice elems spare => uptoBulkAll elems + uptoBulkAll spare + 1
  | .agg parts => uptoBulkAll parts + 1
  | .iface _ d => uptoBulk d + 1
  | .map entries => uptoBulkEntries entries + 1
  | .held _ => 1
def uptoBulkAll {H : Type} : List (DataW H) → Nat
  | [] => 0
  | d :: r => uptoBulk d + uptoBulkAll r
def uptoBulkEntries {H : Type} : List (Lit × DataW H) → Nat
  | [] => 0
  | x :: r => uptoBulkEntry x + uptoBulkEntries r
def uptoBulkEntry {H : Type} : Lit × DataW H → Nat
  | (.string bytes, d) => bytes.length + uptoBulk d + 1
  | (_, d) => uptoBulk d + 1
 end
def uptoSmall : (H : Type) → List (DataW H) → Bool := fun _ ds => decide (uptoBulkAll ds ≤ 1048576)
def OpenSpec.upto (s : _root_.Go.ChangeSpec) : _root_.Go.OpenSpec := { _root_.Go.OpenSpec.ofChange s with cond := some uptoSmall }

/-- 'laws.FnWireNumber', WHERE WHAT IT READS IS OF BULK AT MOST 1048576: true; the input reads as it did. -/
def fnWireNumberUptoRow : OpenClaim := { program := "ytokhmhbjbclcoaadoor", sum := "6cf327113339b61a7aa0284db60cf105a545f8ccc424e74f5fe9fa5da127dd76", func := "loop.example/pub-g01450/laws.FnWireNumber", spec := "fnWireNumber", inPlace := ["internal/reflectlite.TypeOf"], unfollowed := true, recurses := true, named := ["io.ErrUnexpectedEOF", "unicode/utf8.first", "unicode/utf8.acceptRanges"], apart := false, laid := [("unicode/utf8.acceptRanges", laid_unicode_utf8_acceptRanges), ("io.ErrUnexpectedEOF", laid_io_ErrUnexpectedEOF), ("unicode/utf8.first", laid_unicode_utf8_first)], narrowed := true }
def FnWireNumberUptoSaid : Prop := fnWireNumberUptoRow.holds Tryd.pinned (OpenSpec.upto fnWireNumberSpec)

/-- 'laws.FnOldUnquoteRefuses', WHERE WHAT IT READS IS OF BULK AT MOST 1048576: true; the input reads as it did. -/
def fnOldUnquoteRefusesUptoRow : OpenClaim := { program := "ytokhmhbjbclcoaadoor", sum := "6cf327113339b61a7aa0284db60cf105a545f8ccc424e74f5fe9fa5da127dd76", func := "loop.example/pub-g01450/laws.FnOldUnquoteRefuses", spec := "fnOldUnquoteRefuses", recurses := true, named := ["unicode/utf8.first", "unicode/utf8.acceptRanges"], apart := false, laid := [("unicode/utf8.acceptRanges", laid_unicode_utf8_acceptRanges), ("unicode/utf8.first", laid_unicode_utf8_first)], narrowed := true }
def FnOldUnquoteRefusesUptoSaid : Prop := fnOldUnquoteRefusesUptoRow.holds Tryd.pinned (OpenSpec.upto fnOldUnquoteRefusesSpec)

/-- 'laws.FnUnquote', WHERE WHAT IT READS IS OF BULK AT MOST 1048576: true; the input reads as it did. -/
def fnUnquoteUptoRow : OpenClaim := { program := "ytokhmhbjbclcoaadoor", sum := "6cf327113339b61a7aa0284db60cf105a545f8ccc424e74f5fe9fa5da127dd76", func := "loop.example/pub-g01450/laws.FnUnquote", spec := "fnUnquote", unfollowed := true, recurses := true, named := ["io.ErrUnexpectedEOF", "loop.example/pub-g01450/pub/jsontext_internal_jsonwire.ErrInvalidUTF8", "unicode/utf8.first", "unicode/utf8.acceptRanges"], ifaces := true, apart := false, laid := [("unicode/utf8.acceptRanges", laid_unicode_utf8_acceptRanges), ("io.ErrUnexpectedEOF", laid_io_ErrUnexpectedEOF), ("loop.example/pub-g01450/pub/jsontext_internal_jsonwire.ErrInvalidUTF8", laid_loop_example_pub_g01450_pub_jsontext_internal_jsonwire_ErrInvalidUTF8), ("unicode/utf8.first", laid_unicode_utf8_first)], narrowed := true }
def FnUnquoteUptoSaid : Prop := fnUnquoteUptoRow.holds Tryd.pinned (OpenSpec.upto fnUnquoteSpec)

/-- 'laws.FnUnquoteJoin', WHERE WHAT IT READS IS OF BULK AT MOST 1048576: true; the input reads as it did. -/
def fnUnquoteJoinUptoRow : OpenClaim := { program := "ytokhmhbjbclcoaadoor", sum := "6cf327113339b61a7aa0284db60cf105a545f8ccc424e74f5fe9fa5da127dd76", func := "loop.example/pub-g01450/laws.FnUnquoteJoin", spec := "fnUnquoteJoin", unfollowed := true, recurses := true, named := ["io.ErrUnexpectedEOF", "loop.example/pub-g01450/pub/jsontext_internal_jsonwire.ErrInvalidUTF8", "unicode/utf8.first", "unicode/utf8.acceptRanges"], ifaces := true, apart := false, laid := [("unicode/utf8.acceptRanges", laid_unicode_utf8_acceptRanges), ("io.ErrUnexpectedEOF", laid_io_ErrUnexpectedEOF), ("loop.example/pub-g01450/pub/jsontext_internal_jsonwire.ErrInvalidUTF8", laid_loop_example_pub_g01450_pub_jsontext_internal_jsonwire_ErrInvalidUTF8), ("unicode/utf8.first", laid_unicode_utf8_first)], narrowed := true }
def FnUnquoteJoinUptoSaid : Prop := fnUnquoteJoinUptoRow.holds Tryd.pinned (OpenSpec.upto fnUnquoteJoinSpec)

/-- 'laws.FnWireString', WHERE WHAT IT READS IS OF BULK AT MOST 1048576: true; the input reads as it did. -/
def fnWireStringUptoRow : OpenClaim := { program := "ytokhmhbjbclcoaadoor", sum := "6cf327113339b61a7aa0284db60cf105a545f8ccc424e74f5fe9fa5da127dd76", func := "loop.example/pub-g01450/laws.FnWireString", spec := "fnWireString", inPlace := ["internal/reflectlite.TypeOf"], unfollowed := true, recurses := true, named := ["io.ErrUnexpectedEOF", "loop.example/pub-g01450/pub/jsontext_internal_jsonwire.ErrInvalidUTF8", "unicode/utf8.first", "unicode/utf8.acceptRanges"], ifaces := true, apart := false, laid := [("unicode/utf8.acceptRanges", laid_unicode_utf8_acceptRanges), ("io.ErrUnexpectedEOF", laid_io_ErrUnexpectedEOF), ("loop.example/pub-g01450/pub/jsontext_internal_jsonwire.ErrInvalidUTF8", laid_loop_example_pub_g01450_pub_jsontext_internal_jsonwire_ErrInvalidUTF8), ("unicode/utf8.first", laid_unicode_utf8_first)], narrowed := true }
def FnWireStringUptoSaid : Prop := fnWireStringUptoRow.holds Tryd.pinned (OpenSpec.upto fnWireStringSpec)

/-- 'laws.FnBackAndThere', WHERE WHAT IT READS IS OF BULK AT MOST 1048576: true; the input reads as it did. -/
def fnBackAndThereUptoRow : OpenClaim := { program := "ytokhmhbjbclcoaadoor", sum := "6cf327113339b61a7aa0284db60cf105a545f8ccc424e74f5fe9fa5da127dd76", func := "loop.example/pub-g01450/laws.FnBackAndThere", spec := "fnBackAndThere", unfollowed := true, recurses := true, named := ["io.ErrUnexpectedEOF", "loop.example/pub-g01450/pub/jsontext_internal_jsonwire.ErrInvalidUTF8", "unicode/utf8.first", "unicode/utf8.acceptRanges", "loop.example/pub-g01450/pub/jsontext_internal_jsonwire.escapeASCII"], ifaces := true, apart := false, laid := [("unicode/utf8.acceptRanges", laid_unicode_utf8_acceptRanges), ("io.ErrUnexpectedEOF", laid_io_ErrUnexpectedEOF), ("loop.example/pub-g01450/pub/jsontext_internal_jsonwire.escapeASCII", laid_loop_example_pub_g01450_pub_jsontext_internal_jsonwire_escapeASCII), ("loop.example/pub-g01450/pub/jsontext_internal_jsonwire.ErrInvalidUTF8", laid_loop_example_pub_g01450_pub_jsontext_internal_jsonwire_ErrInvalidUTF8), ("unicode/utf8.first", laid_unicode_utf8_first)], narrowed := true }
def FnBackAndThereUptoSaid : Prop := fnBackAndThereUptoRow.holds Tryd.pinned (OpenSpec.upto fnBackAndThereSpec)

end Rows
end Go.Proofs.YtokhmhbjbclcoaaDoor

/-
  No cell of these rows narrows 'for every input' (looked for: loops, veiled, ifaces, maps, wideKeys, modest, calm, conditions, laid).
  DERIVED. THE GIVEN ROWS OF THIS SEAT. 8 by the template 'for every input the law returns true; each argument reads behind the call as it read before'; 0 by the template 'total and deterministic' (their statements: YtbjgbaffaognhaaTotals.lean).
  GIVEN WITH THE SEED: the statements are not yours to turn. If you find one false, say at which input.
  Laid BY PROGRAM, IN A SANDBOX (cutbox-rows.mjs): the forced cells as the released guide's own fill.sh prints them over the translation 8381a93ccd042a8e… (all of the seat's roots in one cut). By AI agents, Wed Nov 11 2026. No macro, syntax, notation, axiom, sorry.
-/
import Derived.Test.YtbjgbaffaognhaaChecked
import GoSem.Claim
import GoSem.ClaimJoined
import GoSem.ClaimMapViews
import Derived.JoinedTies
import Derived.KernelRfl
namespace Go.Proofs.Ytbjgbaffaognhaa
/- THE CELL 'sum', in the pinned program and in every row, IS THE sha256 OF THE DUMP (.gsa) THAT YtbjgbaffaognhaaProg.lean LOADS. Nothing in Lean hashes anything: it is a label: what it is worth is what the hold of that sum in a sandbox is worth. -/
noncomputable def Try.pinned : Pinned := { name := "ytbjgbaffaognhaa", sum := "8381a93ccd042a8eb2a8ef7ef1f26331792319247e185837ce475ad5370ba9b2", checked := Try.checked }
namespace Rows
def none {H : Type} : Left H := { results := [], args := [] }

/-- 'laws.FnWireSpace': WHATEVER THE INPUT: true; the input reads as it did. -/
def fnWireSpaceSpec : ChangeSpec := { name := "fnWireSpace", fn := fun _ => fun
  | [d] => { results := [.lit (.bool true)], args := [d] }
  | _ => none }
def fnWireSpaceRow : OpenClaim := { program := "ytbjgbaffaognhaa", sum := "8381a93ccd042a8eb2a8ef7ef1f26331792319247e185837ce475ad5370ba9b2", func := "loop.example/pub-g01450/laws.FnWireSpace", spec := "fnWireSpace", apart := false }
def FnWireSpaceSaid : Prop := fnWireSpaceRow.holds Try.pinned (OpenSpec.ofChange fnWireSpaceSpec)

/-- ITS FALSE NEIGHBOUR: 'it returns false'. Refute it at one input. -/
def fnWireSpaceWrong : ChangeSpec := { name := "fnWireSpace", fn := fun _ => fun
  | [d] => { results := [.lit (.bool false)], args := [d] }
  | _ => none }
def FnWireSpaceWrongFalsely : Prop := fnWireSpaceRow.holds Try.pinned (OpenSpec.ofChange fnWireSpaceWrong)

/-- 'laws.FnWireTrimString': WHATEVER THE INPUT: true; the input reads as it did. -/
def fnWireTrimStringSpec : ChangeSpec := { name := "fnWireTrimString", fn := fun _ => fun
  | [d1, d2] => { results := [.lit (.bool true)], args := [d1, d2] }
  | _ => none }
def fnWireTrimStringRow : OpenClaim := { program := "ytbjgbaffaognhaa", sum := "8381a93ccd042a8eb2a8ef7ef1f26331792319247e185837ce475ad5370ba9b2", func := "loop.example/pub-g01450/laws.FnWireTrimString", spec := "fnWireTrimString", apart := false }
def FnWireTrimStringSaid : Prop := fnWireTrimStringRow.holds Try.pinned (OpenSpec.ofChange fnWireTrimStringSpec)

/-- ITS FALSE NEIGHBOUR: 'it returns false'. Refute it at one input. -/
def fnWireTrimStringWrong : ChangeSpec := { name := "fnWireTrimString", fn := fun _ => fun
  | [d1, d2] => { results := [.lit (.bool false)], args := [d1, d2] }
  | _ => none }
def FnWireTrimStringWrongFalsely : Prop := fnWireTrimStringRow.holds Try.pinned (OpenSpec.ofChange fnWireTrimStringWrong)

/-- 'laws.FnWireUint': WHATEVER THE INPUT: true; the input reads as it did. -/
def fnWireUintSpec : ChangeSpec := { name := "fnWireUint", fn := fun _ => fun
  | [d] => { results := [.lit (.bool true)], args := [d] }
  | _ => none }
def fnWireUintRow : OpenClaim := { program := "ytbjgbaffaognhaa", sum := "8381a93ccd042a8eb2a8ef7ef1f26331792319247e185837ce475ad5370ba9b2", func := "loop.example/pub-g01450/laws.FnWireUint", spec := "fnWireUint", apart := false }
def FnWireUintSaid : Prop := fnWireUintRow.holds Try.pinned (OpenSpec.ofChange fnWireUintSpec)

/-- ITS FALSE NEIGHBOUR: 'it returns false'. Refute it at one input. -/
def fnWireUintWrong : ChangeSpec := { name := "fnWireUint", fn := fun _ => fun
  | [d] => { results := [.lit (.bool false)], args := [d] }
  | _ => none }
def FnWireUintWrongFalsely : Prop := fnWireUintRow.holds Try.pinned (OpenSpec.ofChange fnWireUintWrong)

/-- 'laws.FnPointerParent': WHATEVER THE INPUT: true; the input reads as it did. -/
def fnPointerParentSpec : ChangeSpec := { name := "fnPointerParent", fn := fun _ => fun
  | [d] => { results := [.lit (.bool true)], args := [d] }
  | _ => none }
def fnPointerParentRow : OpenClaim := { program := "ytbjgbaffaognhaa", sum := "8381a93ccd042a8eb2a8ef7ef1f26331792319247e185837ce475ad5370ba9b2", func := "loop.example/pub-g01450/laws.FnPointerParent", spec := "fnPointerParent", apart := false }
def FnPointerParentSaid : Prop := fnPointerParentRow.holds Try.pinned (OpenSpec.ofChange fnPointerParentSpec)

/-- ITS FALSE NEIGHBOUR: 'it returns false'. Refute it at one input. -/
def fnPointerParentWrong : ChangeSpec := { name := "fnPointerParent", fn := fun _ => fun
  | [d] => { results := [.lit (.bool false)], args := [d] }
  | _ => none }
def FnPointerParentWrongFalsely : Prop := fnPointerParentRow.holds Try.pinned (OpenSpec.ofChange fnPointerParentWrong)

/-- 'laws.FnClearFlags': WHATEVER THE INPUT: true; the input reads as it did. -/
def fnClearFlagsSpec : ChangeSpec := { name := "fnClearFlags", fn := fun _ => fun
  | [d1, d2] => { results := [.lit (.bool true)], args := [d1, d2] }
  | _ => none }
def fnClearFlagsRow : OpenClaim := { program := "ytbjgbaffaognhaa", sum := "8381a93ccd042a8eb2a8ef7ef1f26331792319247e185837ce475ad5370ba9b2", func := "loop.example/pub-g01450/laws.FnClearFlags", spec := "fnClearFlags", apart := false }
def FnClearFlagsSaid : Prop := fnClearFlagsRow.holds Try.pinned (OpenSpec.ofChange fnClearFlagsSpec)

/-- ITS FALSE NEIGHBOUR: 'it returns false'. Refute it at one input. -/
def fnClearFlagsWrong : ChangeSpec := { name := "fnClearFlags", fn := fun _ => fun
  | [d1, d2] => { results := [.lit (.bool false)], args := [d1, d2] }
  | _ => none }
def FnClearFlagsWrongFalsely : Prop := fnClearFlagsRow.holds Try.pinned (OpenSpec.ofChange fnClearFlagsWrong)

/-- 'laws.FnPointerValid': WHATEVER THE INPUT: true; the input reads as it did. -/
def fnPointerValidSpec : ChangeSpec := { name := "fnPointerValid", fn := fun _ => fun
  | [d] => { results := [.lit (.bool true)], args := [d] }
  | _ => none }
def fnPointerValidRow : OpenClaim := { program := "ytbjgbaffaognhaa", sum := "8381a93ccd042a8eb2a8ef7ef1f26331792319247e185837ce475ad5370ba9b2", func := "loop.example/pub-g01450/laws.FnPointerValid", spec := "fnPointerValid", apart := false }
def FnPointerValidSaid : Prop := fnPointerValidRow.holds Try.pinned (OpenSpec.ofChange fnPointerValidSpec)

/-- ITS FALSE NEIGHBOUR: 'it returns false'. Refute it at one input. -/
def fnPointerValidWrong : ChangeSpec := { name := "fnPointerValid", fn := fun _ => fun
  | [d] => { results := [.lit (.bool false)], args := [d] }
  | _ => none }
def FnPointerValidWrongFalsely : Prop := fnPointerValidRow.holds Try.pinned (OpenSpec.ofChange fnPointerValidWrong)

/-- 'laws.FnPointerOneWay': WHATEVER THE INPUT: true; the input reads as it did. -/
def fnPointerOneWaySpec : ChangeSpec := { name := "fnPointerOneWay", fn := fun _ => fun
  | [d1, d2, d3] => { results := [.lit (.bool true)], args := [d1, d2, d3] }
  | _ => none }
def fnPointerOneWayRow : OpenClaim := { program := "ytbjgbaffaognhaa", sum := "8381a93ccd042a8eb2a8ef7ef1f26331792319247e185837ce475ad5370ba9b2", func := "loop.example/pub-g01450/laws.FnPointerOneWay", spec := "fnPointerOneWay", apart := false }
def FnPointerOneWaySaid : Prop := fnPointerOneWayRow.holds Try.pinned (OpenSpec.ofChange fnPointerOneWaySpec)

/-- ITS FALSE NEIGHBOUR: 'it returns false'. Refute it at one input. -/
def fnPointerOneWayWrong : ChangeSpec := { name := "fnPointerOneWay", fn := fun _ => fun
  | [d1, d2, d3] => { results := [.lit (.bool false)], args := [d1, d2, d3] }
  | _ => none }
def FnPointerOneWayWrongFalsely : Prop := fnPointerOneWayRow.holds Try.pinned (OpenSpec.ofChange fnPointerOneWayWrong)

/-- 'laws.FnFlagsBack': WHATEVER THE INPUT: true; the input reads as it did. -/
def fnFlagsBackSpec : ChangeSpec := { name := "fnFlagsBack", fn := fun _ => fun
  | [d1, d2, d3] => { results := [.lit (.bool true)], args := [d1, d2, d3] }
  | _ => none }
def fnFlagsBackRow : OpenClaim := { program := "ytbjgbaffaognhaa", sum := "8381a93ccd042a8eb2a8ef7ef1f26331792319247e185837ce475ad5370ba9b2", func := "loop.example/pub-g01450/laws.FnFlagsBack", spec := "fnFlagsBack", apart := false }
def FnFlagsBackSaid : Prop := fnFlagsBackRow.holds Try.pinned (OpenSpec.ofChange fnFlagsBackSpec)

/-- ITS FALSE NEIGHBOUR: 'it returns false'. Refute it at one input. -/
def fnFlagsBackWrong : ChangeSpec := { name := "fnFlagsBack", fn := fun _ => fun
  | [d1, d2, d3] => { results := [.lit (.bool false)], args := [d1, d2, d3] }
  | _ => none }
def FnFlagsBackWrongFalsely : Prop := fnFlagsBackRow.holds Try.pinned (OpenSpec.ofChange fnFlagsBackWrong)

/- THE SECOND FORM. 'bulk': how many values and letters a reading holds, each counted each time it is reached (what is shared counts as often as it is met; a slice's spare places count too). A statement '..UptoSaid' is the law's where the arguments, and the package variables that the reading takes, are together of bulk at most 1048576: NARROWER than '..Said'. Prove '..Said' where nothing that the law and all that it calls make is longer than what came in: it says more and counts as full. Else prove '..UptoSaid'. A law counts once. -/
mutual
def uptoBulk {H : Type} : DataW H → Nat
  | .lit (.string bytes) => bytes.length + 1
  | .lit _ => 1
  | .nil => 1
  | .ptr d => uptoBulk d + 1
  | .slice elems spare => uptoBulkAll elems + uptoBulkAll spare + 1
  | .agg parts => uptoBulkAll parts + 1
  | .iface _ d => uptoBulk d + 1
  | .map entries => uptoBulkEntries entries + 1
  | .held _ => 1
def uptoBulkAll {H : Type} : List (DataW H) → Nat
  | [] => 0
  | d :: r => uptoBulk d + uptoBulkAll r
def uptoBulkEntries {H : Type} : List (Lit × DataW H) → Nat
  | [] => 0
  | x :: r => uptoBulkEntry x + uptoBulkEntries r
def uptoBulkEntry {H : Type} : Lit × DataW H → Nat
  | (.string bytes, d) => bytes.length + uptoBulk d + 1
  | (_, d) => uptoBulk d + 1
 end
def uptoSmall : (H : Type) → List (DataW H) → Bool := fun _ ds => decide (uptoBulkAll ds ≤ 1048576)
def OpenSpec.upto (s : _root_.Go.ChangeSpec) : _root_.Go.OpenSpec := { _root_.Go.OpenSpec.ofChange s with cond := some uptoSmall }

/-- 'laws.FnWireSpace', WHERE WHAT IT READS IS OF BULK AT MOST 1048576: true; the input reads as it did. -/
def fnWireSpaceUptoRow : OpenClaim := { program := "ytbjgbaffaognhaa", sum := "8381a93ccd042a8eb2a8ef7ef1f26331792319247e185837ce475ad5370ba9b2", func := "loop.example/pub-g01450/laws.FnWireSpace", spec := "fnWireSpace", apart := false, narrowed := true }
def FnWireSpaceUptoSaid : Prop := fnWireSpaceUptoRow.holds Try.pinned (OpenSpec.upto fnWireSpaceSpec)

/-- 'laws.FnWireTrimString', WHERE WHAT IT READS IS OF BULK AT MOST 1048576: true; the input reads as it did. -/
def fnWireTrimStringUptoRow : OpenClaim := { program := "ytbjgbaffaognhaa", sum := "8381a93ccd042a8eb2a8ef7ef1f26331792319247e185837ce475ad5370ba9b2", func := "loop.example/pub-g01450/laws.FnWireTrimString", spec := "fnWireTrimString", apart := false, narrowed := true }
def FnWireTrimStringUptoSaid : Prop := fnWireTrimStringUptoRow.holds Try.pinned (OpenSpec.upto fnWireTrimStringSpec)

/-- 'laws.FnWireUint', WHERE WHAT IT READS IS OF BULK AT MOST 1048576: true; the input reads as it did. -/
def fnWireUintUptoRow : OpenClaim := { program := "ytbjgbaffaognhaa", sum := "8381a93ccd042a8eb2a8ef7ef1f26331792319247e185837ce475ad5370ba9b2", func := "loop.example/pub-g01450/laws.FnWireUint", spec := "fnWireUint", apart := false, narrowed := true }
def FnWireUintUptoSaid : Prop := fnWireUintUptoRow.holds Try.pinned (OpenSpec.upto fnWireUintSpec)

/-- 'laws.FnPointerParent', WHERE WHAT IT READS IS OF BULK AT MOST 1048576: true; the input reads as it did. -/
def fnPointerParentUptoRow : OpenClaim := { program := "ytbjgbaffaognhaa", sum := "8381a93ccd042a8eb2a8ef7ef1f26331792319247e185837ce475ad5370ba9b2", func := "loop.example/pub-g01450/laws.FnPointerParent", spec := "fnPointerParent", apart := false, narrowed := true }
def FnPointerParentUptoSaid : Prop := fnPointerParentUptoRow.holds Try.pinned (OpenSpec.upto fnPointerParentSpec)

/-- 'laws.FnClearFlags', WHERE WHAT IT READS IS OF BULK AT MOST 1048576: true; the input reads as it did. -/
def fnClearFlagsUptoRow : OpenClaim := { program := "ytbjgbaffaognhaa", sum := "8381a93ccd042a8eb2a8ef7ef1f26331792319247e185837ce475ad5370ba9b2", func := "loop.example/pub-g01450/laws.FnClearFlags", spec := "fnClearFlags", apart := false, narrowed := true }
def FnClearFlagsUptoSaid : Prop := fnClearFlagsUptoRow.holds Try.pinned (OpenSpec.upto fnClearFlagsSpec)

/-- 'laws.FnPointerValid', WHERE WHAT IT READS IS OF BULK AT MOST 1048576: true; the input reads as it did. -/
def fnPointerValidUptoRow : OpenClaim := { program := "ytbjgbaffaognhaa", sum := "8381a93ccd042a8eb2a8ef7ef1f26331792319247e185837ce475ad5370ba9b2", func := "loop.example/pub-g01450/laws.FnPointerValid", spec := "fnPointerValid", apart := false, narrowed := true }
def FnPointerValidUptoSaid : Prop := fnPointerValidUptoRow.holds Try.pinned (OpenSpec.upto fnPointerValidSpec)

/-- 'laws.FnPointerOneWay', WHERE WHAT IT READS IS OF BULK AT MOST 1048576: true; the input reads as it did. -/
def fnPointerOneWayUptoRow : OpenClaim := { program := "ytbjgbaffaognhaa", sum := "8381a93ccd042a8eb2a8ef7ef1f26331792319247e185837ce475ad5370ba9b2", func := "loop.example/pub-g01450/laws.FnPointerOneWay", spec := "fnPointerOneWay", apart := false, narrowed := true }
def FnPointerOneWayUptoSaid : Prop := fnPointerOneWayUptoRow.holds Try.pinned (OpenSpec.upto fnPointerOneWaySpec)

/-- 'laws.FnFlagsBack', WHERE WHAT IT READS IS OF BULK AT MOST 1048576: true; the input reads as it did. -/
def fnFlagsBackUptoRow : OpenClaim := { program := "ytbjgbaffaognhaa", sum := "8381a93ccd042a8eb2a8ef7ef1f26331792319247e185837ce475ad5370ba9b2", func := "loop.example/pub-g01450/laws.FnFlagsBack", spec := "fnFlagsBack", apart := false, narrowed := true }
def FnFlagsBackUptoSaid : Prop := fnFlagsBackUptoRow.holds Try.pinned (OpenSpec.upto fnFlagsBackSpec)

end Rows
end Go.Proofs.Ytbjgbaffaognhaa

/-
  No cell of these rows narrows 'for every input' (looked for: loops, veiled, ifaces, maps, wideKeys, modest, calm, conditions, laid).
  DERIVED. THE GIVEN ROWS OF THIS SEAT. 3 by the template 'for every input the law returns true; each argument reads behind the call as it read before'; 0 by the template 'total and deterministic' (their statements: YtjbffgjclnjkoaaTotals.lean).
  GIVEN WITH THE SEED: the statements are not yours to turn. If you find one false, say at which input.
  Laid BY PROGRAM, IN A SANDBOX (cutbox-rows.mjs): the forced cells as the released guide's own fill.sh prints them over the translation f81ca2a2dac3bf25… (all of the seat's roots in one cut). By AI agents, Wed Nov 11 2026. No macro, syntax, notation, axiom, sorry.
-/
import Derived.Test.YtjbffgjclnjkoaaChecked
import GoSem.Claim
import GoSem.ClaimJoined
import GoSem.ClaimMapViews
import Derived.JoinedTies
import Derived.KernelRfl
namespace Go.Proofs.Ytjbffgjclnjkoaa
/- THE CELL 'sum', in the pinned program and in every row, IS THE sha256 OF THE DUMP (.gsa) THAT YtjbffgjclnjkoaaProg.lean LOADS. Nothing in Lean hashes anything: it is a label: what it is worth is what the hold of that sum in a sandbox is worth. -/
noncomputable def Try.pinned : Pinned := { name := "ytjbffgjclnjkoaa", sum := "f81ca2a2dac3bf25040508e320515ba7954b6466e6cbcba97ac2d99bbbafd9d2", checked := Try.checked }
namespace Rows
def none {H : Type} : Left H := { results := [], args := [] }

/-- 'laws.FnOldScan': WHATEVER THE INPUT: true; the input reads as it did. -/
def fnOldScanSpec : ChangeSpec := { name := "fnOldScan", fn := fun _ => fun
  | [d] => { results := [.lit (.bool true)], args := [d] }
  | _ => none }
def fnOldScanRow : OpenClaim := { program := "ytjbffgjclnjkoaa", sum := "f81ca2a2dac3bf25040508e320515ba7954b6466e6cbcba97ac2d99bbbafd9d2", func := "loop.example/pub-g01450/laws.FnOldScan", spec := "fnOldScan", unfollowed := true, recurses := true, apart := false }
def FnOldScanSaid : Prop := fnOldScanRow.holds Try.pinned (OpenSpec.ofChange fnOldScanSpec)

/-- ITS FALSE NEIGHBOUR: 'it returns false'. Refute it at one input. -/
def fnOldScanWrong : ChangeSpec := { name := "fnOldScan", fn := fun _ => fun
  | [d] => { results := [.lit (.bool false)], args := [d] }
  | _ => none }
def FnOldScanWrongFalsely : Prop := fnOldScanRow.holds Try.pinned (OpenSpec.ofChange fnOldScanWrong)

/-- 'laws.FnOldNumberValid': WHATEVER THE INPUT: true; the input reads as it did. -/
def fnOldNumberValidSpec : ChangeSpec := { name := "fnOldNumberValid", fn := fun _ => fun
  | [d] => { results := [.lit (.bool true)], args := [d] }
  | _ => none }
def fnOldNumberValidRow : OpenClaim := { program := "ytjbffgjclnjkoaa", sum := "f81ca2a2dac3bf25040508e320515ba7954b6466e6cbcba97ac2d99bbbafd9d2", func := "loop.example/pub-g01450/laws.FnOldNumberValid", spec := "fnOldNumberValid", unfollowed := true, recurses := true, apart := false }
def FnOldNumberValidSaid : Prop := fnOldNumberValidRow.holds Try.pinned (OpenSpec.ofChange fnOldNumberValidSpec)

/-- ITS FALSE NEIGHBOUR: 'it returns false'. Refute it at one input. -/
def fnOldNumberValidWrong : ChangeSpec := { name := "fnOldNumberValid", fn := fun _ => fun
  | [d] => { results := [.lit (.bool false)], args := [d] }
  | _ => none }
def FnOldNumberValidWrongFalsely : Prop := fnOldNumberValidRow.holds Try.pinned (OpenSpec.ofChange fnOldNumberValidWrong)

/-- 'laws.FnOldTight': WHATEVER THE INPUT: true; the input reads as it did. -/
def fnOldTightSpec : ChangeSpec := { name := "fnOldTight", fn := fun _ => fun
  | [d1, d2] => { results := [.lit (.bool true)], args := [d1, d2] }
  | _ => none }
def fnOldTightRow : OpenClaim := { program := "ytjbffgjclnjkoaa", sum := "f81ca2a2dac3bf25040508e320515ba7954b6466e6cbcba97ac2d99bbbafd9d2", func := "loop.example/pub-g01450/laws.FnOldTight", spec := "fnOldTight", unfollowed := true, recurses := true, apart := false }
def FnOldTightSaid : Prop := fnOldTightRow.holds Try.pinned (OpenSpec.ofChange fnOldTightSpec)

/-- ITS FALSE NEIGHBOUR: 'it returns false'. Refute it at one input. -/
def fnOldTightWrong : ChangeSpec := { name := "fnOldTight", fn := fun _ => fun
  | [d1, d2] => { results := [.lit (.bool false)], args := [d1, d2] }
  | _ => none }
def FnOldTightWrongFalsely : Prop := fnOldTightRow.holds Try.pinned (OpenSpec.ofChange fnOldTightWrong)

/- THE SECOND FORM. 'bulk': how many values and letters a reading holds, each counted each time it is reached (what is shared counts as often as it is met; a slice's spare places count too). A statement '..UptoSaid' is the law's where the arguments, and the package variables that the reading takes, are together of bulk at most 1048576: NARROWER than '..Said'. Prove '..Said' where nothing that the law and all that it calls make is longer than what came in: it says more and counts as full. Else prove '..UptoSaid'. A law counts once. -/
mutual
def uptoBulk {H : Type} : DataW H → Nat
  | .lit (.string bytes) => bytes.length + 1
  | .lit _ => 1
  | .nil => 1
  | .ptr d => uptoBulk d + 1
  | .slice elems spare => uptoBulkAll elems + uptoBulkAll spare + 1
  | .agg parts => uptoBulkAll parts + 1
  | .iface _ d => uptoBulk d + 1
  | .map entries => uptoBulkEntries entries + 1
  | .held _ => 1
def uptoBulkAll {H : Type} : List (DataW H) → Nat
  | [] => 0
  | d :: r => uptoBulk d + uptoBulkAll r
def uptoBulkEntries {H : Type} : List (Lit × DataW H) → Nat
  | [] => 0
  | x :: r => uptoBulkEntry x + uptoBulkEntries r
def uptoBulkEntry {H : Type} : Lit × DataW H → Nat
  | (.string bytes, d) => bytes.length + uptoBulk d + 1
  | (_, d) => uptoBulk d + 1
 end
def uptoSmall : (H : Type) → List (DataW H) → Bool := fun _ ds => decide (uptoBulkAll ds ≤ 1048576)
def OpenSpec.upto (s : _root_.Go.ChangeSpec) : _root_.Go.OpenSpec := { _root_.Go.OpenSpec.ofChange s with cond := some uptoSmall }

/-- 'laws.FnOldScan', WHERE WHAT IT READS IS OF BULK AT MOST 1048576: true; the input reads as it did. -/
def fnOldScanUptoRow : OpenClaim := { program := "ytjbffgjclnjkoaa", sum := "f81ca2a2dac3bf25040508e320515ba7954b6466e6cbcba97ac2d99bbbafd9d2", func := "loop.example/pub-g01450/laws.FnOldScan", spec := "fnOldScan", unfollowed := true, recurses := true, apart := false, narrowed := true }
def FnOldScanUptoSaid : Prop := fnOldScanUptoRow.holds Try.pinned (OpenSpec.upto fnOldScanSpec)

/-- 'laws.FnOldNumberValid', WHERE WHAT IT READS IS OF BULK AT MOST 1048576: true; the input reads as it did. -/
def fnOldNumberValidUptoRow : OpenClaim := { program := "ytjbffgjclnjkoaa", sum := "f81ca2a2dac3bf25040508e320515ba7954b6466e6cbcba97ac2d99bbbafd9d2", func := "loop.example/pub-g01450/laws.FnOldNumberValid", spec := "fnOldNumberValid", unfollowed := true, recurses := true, apart := false, narrowed := true }
def FnOldNumberValidUptoSaid : Prop := fnOldNumberValidUptoRow.holds Try.pinned (OpenSpec.upto fnOldNumberValidSpec)

/-- 'laws.FnOldTight', WHERE WHAT IT READS IS OF BULK AT MOST 1048576: true; the input reads as it did. -/
def fnOldTightUptoRow : OpenClaim := { program := "ytjbffgjclnjkoaa", sum := "f81ca2a2dac3bf25040508e320515ba7954b6466e6cbcba97ac2d99bbbafd9d2", func := "loop.example/pub-g01450/laws.FnOldTight", spec := "fnOldTight", unfollowed := true, recurses := true, apart := false, narrowed := true }
def FnOldTightUptoSaid : Prop := fnOldTightUptoRow.holds Try.pinned (OpenSpec.upto fnOldTightSpec)

end Rows
end Go.Proofs.Ytjbffgjclnjkoaa

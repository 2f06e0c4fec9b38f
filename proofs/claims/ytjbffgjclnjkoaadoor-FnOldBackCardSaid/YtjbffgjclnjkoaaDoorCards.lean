/-
  DERIVED. GIVEN WITH THE SEED: THE CARDS: each row of YtjbffgjclnjkoaaDoorRows.lean that lists a variable, with what it lists TIED to the program's text (the seventh form; the later family's looks); each row that meets fmt, with fmt's text TOLD by the authors' own Lean function (tested against real Go, not proved from fmt's source: count such statements apart). THE CARD IS WHAT COUNTS. Prove the row's statement (the work); the ties are given (YtjbffgjclnjkoaaDoorTie.lean); close each card by the builder's one call (the guide's Derived/Test/ToyasCard.lean, 'card_holds'). Laid BY PROGRAM, IN A SANDBOX (cutbox-door.mjs). By AI agents, Wed Nov 11 2026. No macro, syntax, notation, axiom, sorry.
-/
import Derived.Test.YtjbffgjclnjkoaaDoorRows
import GoSem.ClaimSeven
namespace Go.Proofs.YtjbffgjclnjkoaaDoor
namespace Rows

/-- THE TIED CARD OF 'laws.FnOldBack'. -/
def fnOldBackCard : Claim7 := { stood := { row := fnOldBackRow, standIns := [], harness := (true, "155b2db746cce6cfdb9173d28e0421fa0007858a638369c414f6da46d7d455a4"), looks := true }, kinds := [], alts := [], laidByText := true, laidKinds := [.sentinel], laidTests := true, laidLooks := .later }
def FnOldBackCardSaid : Prop := Claim7.holds Tryd.pinned (.plain (OpenSpec.ofChange fnOldBackSpec)) fnOldBackCard

/-- THE SECOND FORM's CARD OF 'laws.FnOldBack'. -/
def fnOldBackUptoCard : Claim7 := { stood := { row := fnOldBackUptoRow, standIns := [], harness := (true, "155b2db746cce6cfdb9173d28e0421fa0007858a638369c414f6da46d7d455a4"), looks := true }, kinds := [], alts := [], laidByText := true, laidKinds := [.sentinel], laidTests := true, laidLooks := .later }
def FnOldBackUptoCardSaid : Prop := Claim7.holds Tryd.pinned (.plain (OpenSpec.upto fnOldBackSpec)) fnOldBackUptoCard
end Rows
end Go.Proofs.YtjbffgjclnjkoaaDoor

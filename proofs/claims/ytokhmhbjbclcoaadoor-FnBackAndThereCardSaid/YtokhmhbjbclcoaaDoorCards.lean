/-
  DERIVED. GIVEN WITH THE SEED: THE CARDS: each row of YtokhmhbjbclcoaaDoorRows.lean that lists a variable, with what it lists TIED to the program's text (the seventh form; the later family's looks); each row that meets fmt, with fmt's text TOLD by the authors' own Lean function (tested against real Go, not proved from fmt's source: count such statements apart). THE CARD IS WHAT COUNTS. Prove the row's statement (the work); the ties are given (YtokhmhbjbclcoaaDoorTie.lean); close each card by the builder's one call (the guide's Derived/Test/ToyasCard.lean, 'card_holds'). Laid BY PROGRAM, IN A SANDBOX (cutbox-door.mjs). By AI agents, Wed Nov 11 2026. No macro, syntax, notation, axiom, sorry.
-/
import Derived.Test.YtokhmhbjbclcoaaDoorRows
import GoSem.ClaimSeven
namespace Go.Proofs.YtokhmhbjbclcoaaDoor
namespace Rows

/-- THE TIED CARD OF 'laws.FnWireNumber'. -/
def fnWireNumberCard : Claim7 := { stood := { row := fnWireNumberRow, standIns := [], harness := (true, "3b8ba1746e8bb84d9dbf425faceed8236a14223bfd44bc4e5b4f71b9309a5a7d"), looks := true }, kinds := [], alts := [], laidByText := true, laidKinds := [.data, .sentinel, .pinned], laidTests := true, laidLooks := .later }
def FnWireNumberCardSaid : Prop := Claim7.holds Tryd.pinned (.plain (OpenSpec.ofChange fnWireNumberSpec)) fnWireNumberCard

/-- THE TIED CARD OF 'laws.FnOldUnquoteRefuses'. -/
def fnOldUnquoteRefusesCard : Claim7 := { stood := { row := fnOldUnquoteRefusesRow, standIns := [], harness := (true, "3b8ba1746e8bb84d9dbf425faceed8236a14223bfd44bc4e5b4f71b9309a5a7d"), looks := true }, kinds := [], alts := [], laidByText := true, laidKinds := [.data, .pinned], laidTests := true, laidLooks := .later }
def FnOldUnquoteRefusesCardSaid : Prop := Claim7.holds Tryd.pinned (.plain (OpenSpec.ofChange fnOldUnquoteRefusesSpec)) fnOldUnquoteRefusesCard

/-- THE TIED CARD OF 'laws.FnUnquote'. -/
def fnUnquoteCard : Claim7 := { stood := { row := fnUnquoteRow, standIns := [], harness := (true, "3b8ba1746e8bb84d9dbf425faceed8236a14223bfd44bc4e5b4f71b9309a5a7d"), looks := true }, kinds := [], alts := [], laidByText := true, laidKinds := [.data, .sentinel, .sentinel, .pinned], laidTests := true, laidLooks := .later }
def FnUnquoteCardSaid : Prop := Claim7.holds Tryd.pinned (.plain (OpenSpec.ofChange fnUnquoteSpec)) fnUnquoteCard

/-- THE TIED CARD OF 'laws.FnUnquoteJoin'. -/
def fnUnquoteJoinCard : Claim7 := { stood := { row := fnUnquoteJoinRow, standIns := [], harness := (true, "3b8ba1746e8bb84d9dbf425faceed8236a14223bfd44bc4e5b4f71b9309a5a7d"), looks := true }, kinds := [], alts := [], laidByText := true, laidKinds := [.data, .sentinel, .sentinel, .pinned], laidTests := true, laidLooks := .later }
def FnUnquoteJoinCardSaid : Prop := Claim7.holds Tryd.pinned (.plain (OpenSpec.ofChange fnUnquoteJoinSpec)) fnUnquoteJoinCard

/-- THE TIED CARD OF 'laws.FnWireString'. -/
def fnWireStringCard : Claim7 := { stood := { row := fnWireStringRow, standIns := [], harness := (true, "3b8ba1746e8bb84d9dbf425faceed8236a14223bfd44bc4e5b4f71b9309a5a7d"), looks := true }, kinds := [], alts := [], laidByText := true, laidKinds := [.data, .sentinel, .sentinel, .pinned], laidTests := true, laidLooks := .later }
def FnWireStringCardSaid : Prop := Claim7.holds Tryd.pinned (.plain (OpenSpec.ofChange fnWireStringSpec)) fnWireStringCard

/-- THE TIED CARD OF 'laws.FnBackAndThere'. -/
def fnBackAndThereCard : Claim7 := { stood := { row := fnBackAndThereRow, standIns := [], harness := (true, "3b8ba1746e8bb84d9dbf425faceed8236a14223bfd44bc4e5b4f71b9309a5a7d"), looks := true }, kinds := [], alts := [], laidByText := true, laidKinds := [.data, .sentinel, .data, .sentinel, .pinned], laidTests := true, laidLooks := .later }
def FnBackAndThereCardSaid : Prop := Claim7.holds Tryd.pinned (.plain (OpenSpec.ofChange fnBackAndThereSpec)) fnBackAndThereCard

/-- THE SECOND FORM's CARD OF 'laws.FnWireNumber'. -/
def fnWireNumberUptoCard : Claim7 := { stood := { row := fnWireNumberUptoRow, standIns := [], harness := (true, "3b8ba1746e8bb84d9dbf425faceed8236a14223bfd44bc4e5b4f71b9309a5a7d"), looks := true }, kinds := [], alts := [], laidByText := true, laidKinds := [.data, .sentinel, .pinned], laidTests := true, laidLooks := .later }
def FnWireNumberUptoCardSaid : Prop := Claim7.holds Tryd.pinned (.plain (OpenSpec.upto fnWireNumberSpec)) fnWireNumberUptoCard

/-- THE SECOND FORM's CARD OF 'laws.FnOldUnquoteRefuses'. -/
def fnOldUnquoteRefusesUptoCard : Claim7 := { stood := { row := fnOldUnquoteRefusesUptoRow, standIns := [], harness := (true, "3b8ba1746e8bb84d9dbf425faceed8236a14223bfd44bc4e5b4f71b9309a5a7d"), looks := true }, kinds := [], alts := [], laidByText := true, laidKinds := [.data, .pinned], laidTests := true, laidLooks := .later }
def FnOldUnquoteRefusesUptoCardSaid : Prop := Claim7.holds Tryd.pinned (.plain (OpenSpec.upto fnOldUnquoteRefusesSpec)) fnOldUnquoteRefusesUptoCard

/-- THE SECOND FORM's CARD OF 'laws.FnUnquote'. -/
def fnUnquoteUptoCard : Claim7 := { stood := { row := fnUnquoteUptoRow, standIns := [], harness := (true, "3b8ba1746e8bb84d9dbf425faceed8236a14223bfd44bc4e5b4f71b9309a5a7d"), looks := true }, kinds := [], alts := [], laidByText := true, laidKinds := [.data, .sentinel, .sentinel, .pinned], laidTests := true, laidLooks := .later }
def FnUnquoteUptoCardSaid : Prop := Claim7.holds Tryd.pinned (.plain (OpenSpec.upto fnUnquoteSpec)) fnUnquoteUptoCard

/-- THE SECOND FORM's CARD OF 'laws.FnUnquoteJoin'. -/
def fnUnquoteJoinUptoCard : Claim7 := { stood := { row := fnUnquoteJoinUptoRow, standIns := [], harness := (true, "3b8ba1746e8bb84d9dbf425faceed8236a14223bfd44bc4e5b4f71b9309a5a7d"), looks := true }, kinds := [], alts := [], laidByText := true, laidKinds := [.data, .sentinel, .sentinel, .pinned], laidTests := true, laidLooks := .later }
def FnUnquoteJoinUptoCardSaid : Prop := Claim7.holds Tryd.pinned (.plain (OpenSpec.upto fnUnquoteJoinSpec)) fnUnquoteJoinUptoCard

/-- THE SECOND FORM's CARD OF 'laws.FnWireString'. -/
def fnWireStringUptoCard : Claim7 := { stood := { row := fnWireStringUptoRow, standIns := [], harness := (true, "3b8ba1746e8bb84d9dbf425faceed8236a14223bfd44bc4e5b4f71b9309a5a7d"), looks := true }, kinds := [], alts := [], laidByText := true, laidKinds := [.data, .sentinel, .sentinel, .pinned], laidTests := true, laidLooks := .later }
def FnWireStringUptoCardSaid : Prop := Claim7.holds Tryd.pinned (.plain (OpenSpec.upto fnWireStringSpec)) fnWireStringUptoCard

/-- THE SECOND FORM's CARD OF 'laws.FnBackAndThere'. -/
def fnBackAndThereUptoCard : Claim7 := { stood := { row := fnBackAndThereUptoRow, standIns := [], harness := (true, "3b8ba1746e8bb84d9dbf425faceed8236a14223bfd44bc4e5b4f71b9309a5a7d"), looks := true }, kinds := [], alts := [], laidByText := true, laidKinds := [.data, .sentinel, .data, .sentinel, .pinned], laidTests := true, laidLooks := .later }
def FnBackAndThereUptoCardSaid : Prop := Claim7.holds Tryd.pinned (.plain (OpenSpec.upto fnBackAndThereSpec)) fnBackAndThereUptoCard
end Rows
end Go.Proofs.YtokhmhbjbclcoaaDoor

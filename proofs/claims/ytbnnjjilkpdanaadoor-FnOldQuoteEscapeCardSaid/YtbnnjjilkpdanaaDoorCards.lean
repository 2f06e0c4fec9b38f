/-
  DERIVED. GIVEN WITH THE SEED: THE CARDS: each row of YtbnnjjilkpdanaaDoorRows.lean that lists a variable, with what it lists TIED to the program's text (the seventh form; the later family's looks); each row that meets fmt, with fmt's text TOLD by the authors' own Lean function (tested against real Go, not proved from fmt's source: count such statements apart). THE CARD IS WHAT COUNTS. Prove the row's statement (the work); the ties are given (YtbnnjjilkpdanaaDoorTie.lean); close each card by the builder's one call (the guide's Derived/Test/ToyasCard.lean, 'card_holds'). Laid BY PROGRAM, IN A SANDBOX (cutbox-door.mjs). By AI agents, Wed Nov 11 2026. No macro, syntax, notation, axiom, sorry.
-/
import Derived.Test.YtbnnjjilkpdanaaDoorRows
import GoSem.ClaimSeven
namespace Go.Proofs.YtbnnjjilkpdanaaDoor
namespace Rows

/-- THE TIED CARD OF 'laws.FnNeedsEscapeJoin'. -/
def fnNeedsEscapeJoinCard : Claim7 := { stood := { row := fnNeedsEscapeJoinRow, standIns := [], harness := (true, "ebaee21d36d71b0496236f9bfc094772e77622722b4f48aeaf2aaf62d18b88bb"), looks := true }, kinds := [], alts := [], laidByText := true, laidKinds := [.data, .data, .pinned], laidTests := true, laidLooks := .later }
def FnNeedsEscapeJoinCardSaid : Prop := Claim7.holds Tryd.pinned (.plain (OpenSpec.ofChange fnNeedsEscapeJoinSpec)) fnNeedsEscapeJoinCard

/-- THE TIED CARD OF 'laws.FnCompareNames'. -/
def fnCompareNamesCard : Claim7 := { stood := { row := fnCompareNamesRow, standIns := [], harness := (true, "ebaee21d36d71b0496236f9bfc094772e77622722b4f48aeaf2aaf62d18b88bb"), looks := true }, kinds := [], alts := [], laidByText := true, laidKinds := [.data, .pinned], laidTests := true, laidLooks := .later }
def FnCompareNamesCardSaid : Prop := Claim7.holds Tryd.pinned (.plain (OpenSpec.ofChange fnCompareNamesSpec)) fnCompareNamesCard

/-- THE TIED CARD OF 'laws.FnCompareTwo'. -/
def fnCompareTwoCard : Claim7 := { stood := { row := fnCompareTwoRow, standIns := [], harness := (true, "ebaee21d36d71b0496236f9bfc094772e77622722b4f48aeaf2aaf62d18b88bb"), looks := true }, kinds := [], alts := [], laidByText := true, laidKinds := [.data, .pinned], laidTests := true, laidLooks := .later }
def FnCompareTwoCardSaid : Prop := Claim7.holds Tryd.pinned (.plain (OpenSpec.ofChange fnCompareTwoSpec)) fnCompareTwoCard

/-- THE TIED CARD OF 'laws.FnOldQuoteEscape'. -/
def fnOldQuoteEscapeCard : Claim7 := { stood := { row := fnOldQuoteEscapeRow, standIns := [], harness := (true, "ebaee21d36d71b0496236f9bfc094772e77622722b4f48aeaf2aaf62d18b88bb"), looks := true }, kinds := [], alts := [], laidByText := true, laidKinds := [.data, .data, .data, .pinned], laidTests := true, laidLooks := .later }
def FnOldQuoteEscapeCardSaid : Prop := Claim7.holds Tryd.pinned (.plain (OpenSpec.ofChange fnOldQuoteEscapeSpec)) fnOldQuoteEscapeCard

/-- THE TIED CARD OF 'laws.FnQuoteInner'. -/
def fnQuoteInnerCard : Claim7 := { stood := { row := fnQuoteInnerRow, standIns := [], harness := (true, "ebaee21d36d71b0496236f9bfc094772e77622722b4f48aeaf2aaf62d18b88bb"), looks := true }, kinds := [], alts := [], laidByText := true, laidKinds := [.data, .data, .sentinel, .pinned], laidTests := true, laidLooks := .later }
def FnQuoteInnerCardSaid : Prop := Claim7.holds Tryd.pinned (.plain (OpenSpec.ofChange fnQuoteInnerSpec)) fnQuoteInnerCard

/-- THE TIED CARD OF 'laws.FnWireNumber'. -/
def fnWireNumberCard : Claim7 := { stood := { row := fnWireNumberRow, standIns := [], harness := (true, "ebaee21d36d71b0496236f9bfc094772e77622722b4f48aeaf2aaf62d18b88bb"), looks := true }, kinds := [], alts := [], laidByText := true, laidKinds := [.data, .sentinel, .pinned], laidTests := true, laidLooks := .later }
def FnWireNumberCardSaid : Prop := Claim7.holds Tryd.pinned (.plain (OpenSpec.ofChange fnWireNumberSpec)) fnWireNumberCard

/-- THE TIED CARD OF 'laws.FnOldUnquoteRefuses'. -/
def fnOldUnquoteRefusesCard : Claim7 := { stood := { row := fnOldUnquoteRefusesRow, standIns := [], harness := (true, "ebaee21d36d71b0496236f9bfc094772e77622722b4f48aeaf2aaf62d18b88bb"), looks := true }, kinds := [], alts := [], laidByText := true, laidKinds := [.data, .pinned], laidTests := true, laidLooks := .later }
def FnOldUnquoteRefusesCardSaid : Prop := Claim7.holds Tryd.pinned (.plain (OpenSpec.ofChange fnOldUnquoteRefusesSpec)) fnOldUnquoteRefusesCard

/-- THE TIED CARD OF 'laws.FnUnquote'. -/
def fnUnquoteCard : Claim7 := { stood := { row := fnUnquoteRow, standIns := [], harness := (true, "ebaee21d36d71b0496236f9bfc094772e77622722b4f48aeaf2aaf62d18b88bb"), looks := true }, kinds := [], alts := [], laidByText := true, laidKinds := [.data, .sentinel, .sentinel, .pinned], laidTests := true, laidLooks := .later }
def FnUnquoteCardSaid : Prop := Claim7.holds Tryd.pinned (.plain (OpenSpec.ofChange fnUnquoteSpec)) fnUnquoteCard

/-- THE TIED CARD OF 'laws.FnUnquoteJoin'. -/
def fnUnquoteJoinCard : Claim7 := { stood := { row := fnUnquoteJoinRow, standIns := [], harness := (true, "ebaee21d36d71b0496236f9bfc094772e77622722b4f48aeaf2aaf62d18b88bb"), looks := true }, kinds := [], alts := [], laidByText := true, laidKinds := [.data, .sentinel, .sentinel, .pinned], laidTests := true, laidLooks := .later }
def FnUnquoteJoinCardSaid : Prop := Claim7.holds Tryd.pinned (.plain (OpenSpec.ofChange fnUnquoteJoinSpec)) fnUnquoteJoinCard

/-- THE SECOND FORM's CARD OF 'laws.FnNeedsEscapeJoin'. -/
def fnNeedsEscapeJoinUptoCard : Claim7 := { stood := { row := fnNeedsEscapeJoinUptoRow, standIns := [], harness := (true, "ebaee21d36d71b0496236f9bfc094772e77622722b4f48aeaf2aaf62d18b88bb"), looks := true }, kinds := [], alts := [], laidByText := true, laidKinds := [.data, .data, .pinned], laidTests := true, laidLooks := .later }
def FnNeedsEscapeJoinUptoCardSaid : Prop := Claim7.holds Tryd.pinned (.plain (OpenSpec.upto fnNeedsEscapeJoinSpec)) fnNeedsEscapeJoinUptoCard

/-- THE SECOND FORM's CARD OF 'laws.FnCompareNames'. -/
def fnCompareNamesUptoCard : Claim7 := { stood := { row := fnCompareNamesUptoRow, standIns := [], harness := (true, "ebaee21d36d71b0496236f9bfc094772e77622722b4f48aeaf2aaf62d18b88bb"), looks := true }, kinds := [], alts := [], laidByText := true, laidKinds := [.data, .pinned], laidTests := true, laidLooks := .later }
def FnCompareNamesUptoCardSaid : Prop := Claim7.holds Tryd.pinned (.plain (OpenSpec.upto fnCompareNamesSpec)) fnCompareNamesUptoCard

/-- THE SECOND FORM's CARD OF 'laws.FnCompareTwo'. -/
def fnCompareTwoUptoCard : Claim7 := { stood := { row := fnCompareTwoUptoRow, standIns := [], harness := (true, "ebaee21d36d71b0496236f9bfc094772e77622722b4f48aeaf2aaf62d18b88bb"), looks := true }, kinds := [], alts := [], laidByText := true, laidKinds := [.data, .pinned], laidTests := true, laidLooks := .later }
def FnCompareTwoUptoCardSaid : Prop := Claim7.holds Tryd.pinned (.plain (OpenSpec.upto fnCompareTwoSpec)) fnCompareTwoUptoCard

/-- THE SECOND FORM's CARD OF 'laws.FnOldQuoteEscape'. -/
def fnOldQuoteEscapeUptoCard : Claim7 := { stood := { row := fnOldQuoteEscapeUptoRow, standIns := [], harness := (true, "ebaee21d36d71b0496236f9bfc094772e77622722b4f48aeaf2aaf62d18b88bb"), looks := true }, kinds := [], alts := [], laidByText := true, laidKinds := [.data, .data, .data, .pinned], laidTests := true, laidLooks := .later }
def FnOldQuoteEscapeUptoCardSaid : Prop := Claim7.holds Tryd.pinned (.plain (OpenSpec.upto fnOldQuoteEscapeSpec)) fnOldQuoteEscapeUptoCard

/-- THE SECOND FORM's CARD OF 'laws.FnQuoteInner'. -/
def fnQuoteInnerUptoCard : Claim7 := { stood := { row := fnQuoteInnerUptoRow, standIns := [], harness := (true, "ebaee21d36d71b0496236f9bfc094772e77622722b4f48aeaf2aaf62d18b88bb"), looks := true }, kinds := [], alts := [], laidByText := true, laidKinds := [.data, .data, .sentinel, .pinned], laidTests := true, laidLooks := .later }
def FnQuoteInnerUptoCardSaid : Prop := Claim7.holds Tryd.pinned (.plain (OpenSpec.upto fnQuoteInnerSpec)) fnQuoteInnerUptoCard

/-- THE SECOND FORM's CARD OF 'laws.FnWireNumber'. -/
def fnWireNumberUptoCard : Claim7 := { stood := { row := fnWireNumberUptoRow, standIns := [], harness := (true, "ebaee21d36d71b0496236f9bfc094772e77622722b4f48aeaf2aaf62d18b88bb"), looks := true }, kinds := [], alts := [], laidByText := true, laidKinds := [.data, .sentinel, .pinned], laidTests := true, laidLooks := .later }
def FnWireNumberUptoCardSaid : Prop := Claim7.holds Tryd.pinned (.plain (OpenSpec.upto fnWireNumberSpec)) fnWireNumberUptoCard

/-- THE SECOND FORM's CARD OF 'laws.FnOldUnquoteRefuses'. -/
def fnOldUnquoteRefusesUptoCard : Claim7 := { stood := { row := fnOldUnquoteRefusesUptoRow, standIns := [], harness := (true, "ebaee21d36d71b0496236f9bfc094772e77622722b4f48aeaf2aaf62d18b88bb"), looks := true }, kinds := [], alts := [], laidByText := true, laidKinds := [.data, .pinned], laidTests := true, laidLooks := .later }
def FnOldUnquoteRefusesUptoCardSaid : Prop := Claim7.holds Tryd.pinned (.plain (OpenSpec.upto fnOldUnquoteRefusesSpec)) fnOldUnquoteRefusesUptoCard

/-- THE SECOND FORM's CARD OF 'laws.FnUnquote'. -/
def fnUnquoteUptoCard : Claim7 := { stood := { row := fnUnquoteUptoRow, standIns := [], harness := (true, "ebaee21d36d71b0496236f9bfc094772e77622722b4f48aeaf2aaf62d18b88bb"), looks := true }, kinds := [], alts := [], laidByText := true, laidKinds := [.data, .sentinel, .sentinel, .pinned], laidTests := true, laidLooks := .later }
def FnUnquoteUptoCardSaid : Prop := Claim7.holds Tryd.pinned (.plain (OpenSpec.upto fnUnquoteSpec)) fnUnquoteUptoCard

/-- THE SECOND FORM's CARD OF 'laws.FnUnquoteJoin'. -/
def fnUnquoteJoinUptoCard : Claim7 := { stood := { row := fnUnquoteJoinUptoRow, standIns := [], harness := (true, "ebaee21d36d71b0496236f9bfc094772e77622722b4f48aeaf2aaf62d18b88bb"), looks := true }, kinds := [], alts := [], laidByText := true, laidKinds := [.data, .sentinel, .sentinel, .pinned], laidTests := true, laidLooks := .later }
def FnUnquoteJoinUptoCardSaid : Prop := Claim7.holds Tryd.pinned (.plain (OpenSpec.upto fnUnquoteJoinSpec)) fnUnquoteJoinUptoCard
end Rows
end Go.Proofs.YtbnnjjilkpdanaaDoor

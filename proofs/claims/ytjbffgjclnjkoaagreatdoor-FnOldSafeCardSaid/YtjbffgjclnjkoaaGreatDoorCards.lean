/-
  DERIVED. GIVEN WITH THE SEED: THE CARDS: each row of YtjbffgjclnjkoaaGreatDoorRows.lean that lists a variable, with what it lists TIED to the program's text (the seventh form; the later family's looks); each row that meets fmt, with fmt's text TOLD by the authors' own Lean function (tested against real Go, not proved from fmt's source: count such statements apart). THE CARD IS WHAT COUNTS. Prove the row's statement (the work); the ties are given (YtjbffgjclnjkoaaGreatDoorTie.lean); close each card by the builder's one call (the guide's Derived/Test/ToyasCard.lean, 'card_holds'). Laid BY PROGRAM, IN A SANDBOX (cutbox-door.mjs). By AI agents, Wed Nov 11 2026. No macro, syntax, notation, axiom, sorry.
-/
import Derived.Test.YtjbffgjclnjkoaaGreatDoorRows
import GoSem.ClaimSeven
namespace Go.Proofs.YtjbffgjclnjkoaaGreatDoor
namespace Rows

/-- THE TIED CARD OF 'laws.FnOldSafe'. -/
def fnOldSafeCard : Claim7 := { stood := { row := fnOldSafeRow, standIns := [], harness := (true, "4a1325b4042e7c62afd35c23964e615cd7ed769d31789f913b021e7c8da617f8"), looks := true }, kinds := [], alts := [], laidByText := true, laidKinds := [.sentinel], laidTests := true, laidLooks := .later }
def FnOldSafeCardSaid : Prop := Claim7.holds Tryz.pinned (.plain (OpenSpec.ofChange fnOldSafeSpec)) fnOldSafeCard

/-- THE TIED CARD OF 'laws.FnOldCompact'. -/
def fnOldCompactCard : Claim7 := { stood := { row := fnOldCompactRow, standIns := [], harness := (true, "4a1325b4042e7c62afd35c23964e615cd7ed769d31789f913b021e7c8da617f8"), looks := true }, kinds := [], alts := [], laidByText := true, laidKinds := [.sentinel], laidTests := true, laidLooks := .later }
def FnOldCompactCardSaid : Prop := Claim7.holds Tryz.pinned (.plain (OpenSpec.ofChange fnOldCompactSpec)) fnOldCompactCard

/-- THE SECOND FORM's CARD OF 'laws.FnOldSafe'. -/
def fnOldSafeUptoCard : Claim7 := { stood := { row := fnOldSafeUptoRow, standIns := [], harness := (true, "4a1325b4042e7c62afd35c23964e615cd7ed769d31789f913b021e7c8da617f8"), looks := true }, kinds := [], alts := [], laidByText := true, laidKinds := [.sentinel], laidTests := true, laidLooks := .later }
def FnOldSafeUptoCardSaid : Prop := Claim7.holds Tryz.pinned (.plain (OpenSpec.upto fnOldSafeSpec)) fnOldSafeUptoCard

/-- THE SECOND FORM's CARD OF 'laws.FnOldCompact'. -/
def fnOldCompactUptoCard : Claim7 := { stood := { row := fnOldCompactUptoRow, standIns := [], harness := (true, "4a1325b4042e7c62afd35c23964e615cd7ed769d31789f913b021e7c8da617f8"), looks := true }, kinds := [], alts := [], laidByText := true, laidKinds := [.sentinel], laidTests := true, laidLooks := .later }
def FnOldCompactUptoCardSaid : Prop := Claim7.holds Tryz.pinned (.plain (OpenSpec.upto fnOldCompactSpec)) fnOldCompactUptoCard
end Rows
end Go.Proofs.YtjbffgjclnjkoaaGreatDoor

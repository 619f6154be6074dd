/-
  DERIVED. GIVEN WITH THE SEED: THE CARDS: each row of YtcjobencclihdaaDoorRows.lean that lists a variable, with what it lists TIED to the program's text (the seventh form; the later family's looks); each row that meets fmt, with fmt's text TOLD by the authors' own Lean function (tested against real Go, not proved from fmt's source: count such statements apart). THE CARD IS WHAT COUNTS. Prove the row's statement (the work); the ties are given (YtcjobencclihdaaDoorTie.lean); close each card by the builder's one call (the guide's Derived/Test/ToyasCard.lean, 'card_holds'). Laid BY PROGRAM, IN A SANDBOX (cutbox-door.mjs). By AI agents, Wed Nov 11 2026. No macro, syntax, notation, axiom, sorry.
-/
import Derived.Test.YtcjobencclihdaaDoorRows
import GoSem.ClaimSeven
namespace Go.Proofs.YtcjobencclihdaaDoor
namespace Rows

/-- THE TIED CARD OF 'laws.FnLevelLists'. -/
def fnLevelListsCard : Claim7 := { stood := { row := fnLevelListsRow, standIns := [], harness := (true, "fd321c09dc529aa8d69989843b9046de2a2ea9fc9b24bcf840cd9c8ff00efb79"), looks := true }, kinds := [], alts := [], laidByText := true, laidKinds := [.data, .data], laidTests := true, laidLooks := .later }
def FnLevelListsCardSaid : Prop := Claim7.holds Tryd.pinned (.plain (OpenSpec.ofChange fnLevelListsSpec)) fnLevelListsCard

/-- THE SECOND FORM's CARD OF 'laws.FnLevelLists'. -/
def fnLevelListsUptoCard : Claim7 := { stood := { row := fnLevelListsUptoRow, standIns := [], harness := (true, "fd321c09dc529aa8d69989843b9046de2a2ea9fc9b24bcf840cd9c8ff00efb79"), looks := true }, kinds := [], alts := [], laidByText := true, laidKinds := [.data, .data], laidTests := true, laidLooks := .later }
def FnLevelListsUptoCardSaid : Prop := Claim7.holds Tryd.pinned (.plain (OpenSpec.upto fnLevelListsSpec)) fnLevelListsUptoCard
end Rows
end Go.Proofs.YtcjobencclihdaaDoor

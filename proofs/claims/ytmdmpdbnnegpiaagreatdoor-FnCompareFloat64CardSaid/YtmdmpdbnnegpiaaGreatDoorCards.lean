/-
  DERIVED. GIVEN WITH THE SEED: THE CARDS: each row of YtmdmpdbnnegpiaaGreatDoorRows.lean that lists a variable, with what it lists TIED to the program's text (the seventh form; the later family's looks); each row that meets fmt, with fmt's text TOLD by the authors' own Lean function (tested against real Go, not proved from fmt's source: count such statements apart). THE CARD IS WHAT COUNTS. Prove the row's statement (the work); the ties are given (YtmdmpdbnnegpiaaGreatDoorTie.lean); close each card by the builder's one call (the guide's Derived/Test/ToyasCard.lean, 'card_holds'). Laid BY PROGRAM, IN A SANDBOX (cutbox-door.mjs). By AI agents, Wed Nov 11 2026. No macro, syntax, notation, axiom, sorry.
-/
import Derived.Test.YtmdmpdbnnegpiaaGreatDoorRows
import GoSem.ClaimSeven
namespace Go.Proofs.YtmdmpdbnnegpiaaGreatDoor
namespace Rows

/-- THE TIED CARD OF 'laws.FnCompareFloat64'. -/
def fnCompareFloat64Card : Claim7 := { stood := { row := fnCompareFloat64Row, standIns := [], harness := (true, "0c1853f8672cebbdbdeb69d590b9973723fa9bfdefd0ef2c19af7d76080bb0f1"), looks := true }, kinds := [], alts := [], laidByText := true, laidKinds := [.data, .data], laidTests := true, laidLooks := .later }
def FnCompareFloat64CardSaid : Prop := Claim7.holds Tryz.pinned (.plain (OpenSpec.ofChange fnCompareFloat64Spec)) fnCompareFloat64Card

/-- THE TIED CARD OF 'laws.FnCompareUint16'. -/
def fnCompareUint16Card : Claim7 := { stood := { row := fnCompareUint16Row, standIns := [], harness := (true, "0c1853f8672cebbdbdeb69d590b9973723fa9bfdefd0ef2c19af7d76080bb0f1"), looks := true }, kinds := [], alts := [], laidByText := true, laidKinds := [.data, .data], laidTests := true, laidLooks := .later }
def FnCompareUint16CardSaid : Prop := Claim7.holds Tryz.pinned (.plain (OpenSpec.ofChange fnCompareUint16Spec)) fnCompareUint16Card

/-- THE SECOND FORM's CARD OF 'laws.FnCompareFloat64'. -/
def fnCompareFloat64UptoCard : Claim7 := { stood := { row := fnCompareFloat64UptoRow, standIns := [], harness := (true, "0c1853f8672cebbdbdeb69d590b9973723fa9bfdefd0ef2c19af7d76080bb0f1"), looks := true }, kinds := [], alts := [], laidByText := true, laidKinds := [.data, .data], laidTests := true, laidLooks := .later }
def FnCompareFloat64UptoCardSaid : Prop := Claim7.holds Tryz.pinned (.plain (OpenSpec.upto fnCompareFloat64Spec)) fnCompareFloat64UptoCard

/-- THE SECOND FORM's CARD OF 'laws.FnCompareUint16'. -/
def fnCompareUint16UptoCard : Claim7 := { stood := { row := fnCompareUint16UptoRow, standIns := [], harness := (true, "0c1853f8672cebbdbdeb69d590b9973723fa9bfdefd0ef2c19af7d76080bb0f1"), looks := true }, kinds := [], alts := [], laidByText := true, laidKinds := [.data, .data], laidTests := true, laidLooks := .later }
def FnCompareUint16UptoCardSaid : Prop := Claim7.holds Tryz.pinned (.plain (OpenSpec.upto fnCompareUint16Spec)) fnCompareUint16UptoCard
end Rows
end Go.Proofs.YtmdmpdbnnegpiaaGreatDoor

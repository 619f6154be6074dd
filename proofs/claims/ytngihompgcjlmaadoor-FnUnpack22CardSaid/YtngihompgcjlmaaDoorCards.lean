/-
  DERIVED. GIVEN WITH THE SEED: THE CARDS: each row of YtngihompgcjlmaaDoorRows.lean that lists a variable, with what it lists TIED to the program's text (the seventh form; the later family's looks); each row that meets fmt, with fmt's text TOLD by the authors' own Lean function (tested against real Go, not proved from fmt's source: count such statements apart). THE CARD IS WHAT COUNTS. Prove the row's statement (the work); the ties are given (YtngihompgcjlmaaDoorTie.lean); close each card by the builder's one call (the guide's Derived/Test/ToyasCard.lean, 'card_holds'). Laid BY PROGRAM, IN A SANDBOX (cutbox-door.mjs). By AI agents, Wed Nov 11 2026. No macro, syntax, notation, axiom, sorry.
-/
import Derived.Test.YtngihompgcjlmaaDoorRows
import GoSem.ClaimSeven
namespace Go.Proofs.YtngihompgcjlmaaDoor
namespace Rows

/-- THE TIED CARD OF 'laws.FnUnpack2'. -/
def fnUnpack2Card : Claim7 := { stood := { row := fnUnpack2Row, standIns := [], harness := (true, "3e306fe3b3d09a38da0de4a3dafebb6149c739d2c2f9dc050fdb9474815e9e79"), looks := true }, kinds := [], alts := [], laidByText := true, laidKinds := [.sentinel, .sentinel, .sentinel], laidTests := true, laidLooks := .later }
def FnUnpack2CardSaid : Prop := Claim7.holds Tryd.pinned (.plain (OpenSpec.ofChange fnUnpack2Spec)) fnUnpack2Card

/-- THE TIED CARD OF 'laws.FnUnpack6'. -/
def fnUnpack6Card : Claim7 := { stood := { row := fnUnpack6Row, standIns := [], harness := (true, "3e306fe3b3d09a38da0de4a3dafebb6149c739d2c2f9dc050fdb9474815e9e79"), looks := true }, kinds := [], alts := [], laidByText := true, laidKinds := [.sentinel, .sentinel, .sentinel], laidTests := true, laidLooks := .later }
def FnUnpack6CardSaid : Prop := Claim7.holds Tryd.pinned (.plain (OpenSpec.ofChange fnUnpack6Spec)) fnUnpack6Card

/-- THE TIED CARD OF 'laws.FnUnpack10'. -/
def fnUnpack10Card : Claim7 := { stood := { row := fnUnpack10Row, standIns := [], harness := (true, "3e306fe3b3d09a38da0de4a3dafebb6149c739d2c2f9dc050fdb9474815e9e79"), looks := true }, kinds := [], alts := [], laidByText := true, laidKinds := [.sentinel, .sentinel, .sentinel], laidTests := true, laidLooks := .later }
def FnUnpack10CardSaid : Prop := Claim7.holds Tryd.pinned (.plain (OpenSpec.ofChange fnUnpack10Spec)) fnUnpack10Card

/-- THE TIED CARD OF 'laws.FnUnpack14'. -/
def fnUnpack14Card : Claim7 := { stood := { row := fnUnpack14Row, standIns := [], harness := (true, "3e306fe3b3d09a38da0de4a3dafebb6149c739d2c2f9dc050fdb9474815e9e79"), looks := true }, kinds := [], alts := [], laidByText := true, laidKinds := [.sentinel, .sentinel, .sentinel], laidTests := true, laidLooks := .later }
def FnUnpack14CardSaid : Prop := Claim7.holds Tryd.pinned (.plain (OpenSpec.ofChange fnUnpack14Spec)) fnUnpack14Card

/-- THE TIED CARD OF 'laws.FnUnpack18'. -/
def fnUnpack18Card : Claim7 := { stood := { row := fnUnpack18Row, standIns := [], harness := (true, "3e306fe3b3d09a38da0de4a3dafebb6149c739d2c2f9dc050fdb9474815e9e79"), looks := true }, kinds := [], alts := [], laidByText := true, laidKinds := [.sentinel, .sentinel, .sentinel], laidTests := true, laidLooks := .later }
def FnUnpack18CardSaid : Prop := Claim7.holds Tryd.pinned (.plain (OpenSpec.ofChange fnUnpack18Spec)) fnUnpack18Card

/-- THE TIED CARD OF 'laws.FnUnpack22'. -/
def fnUnpack22Card : Claim7 := { stood := { row := fnUnpack22Row, standIns := [], harness := (true, "3e306fe3b3d09a38da0de4a3dafebb6149c739d2c2f9dc050fdb9474815e9e79"), looks := true }, kinds := [], alts := [], laidByText := true, laidKinds := [.sentinel, .sentinel, .sentinel], laidTests := true, laidLooks := .later }
def FnUnpack22CardSaid : Prop := Claim7.holds Tryd.pinned (.plain (OpenSpec.ofChange fnUnpack22Spec)) fnUnpack22Card

/-- THE TIED CARD OF 'laws.FnUnpack26'. -/
def fnUnpack26Card : Claim7 := { stood := { row := fnUnpack26Row, standIns := [], harness := (true, "3e306fe3b3d09a38da0de4a3dafebb6149c739d2c2f9dc050fdb9474815e9e79"), looks := true }, kinds := [], alts := [], laidByText := true, laidKinds := [.sentinel, .sentinel, .sentinel], laidTests := true, laidLooks := .later }
def FnUnpack26CardSaid : Prop := Claim7.holds Tryd.pinned (.plain (OpenSpec.ofChange fnUnpack26Spec)) fnUnpack26Card

/-- THE TIED CARD OF 'laws.FnUnpack30'. -/
def fnUnpack30Card : Claim7 := { stood := { row := fnUnpack30Row, standIns := [], harness := (true, "3e306fe3b3d09a38da0de4a3dafebb6149c739d2c2f9dc050fdb9474815e9e79"), looks := true }, kinds := [], alts := [], laidByText := true, laidKinds := [.sentinel, .sentinel, .sentinel], laidTests := true, laidLooks := .later }
def FnUnpack30CardSaid : Prop := Claim7.holds Tryd.pinned (.plain (OpenSpec.ofChange fnUnpack30Spec)) fnUnpack30Card

/-- THE SECOND FORM's CARD OF 'laws.FnUnpack2'. -/
def fnUnpack2UptoCard : Claim7 := { stood := { row := fnUnpack2UptoRow, standIns := [], harness := (true, "3e306fe3b3d09a38da0de4a3dafebb6149c739d2c2f9dc050fdb9474815e9e79"), looks := true }, kinds := [], alts := [], laidByText := true, laidKinds := [.sentinel, .sentinel, .sentinel], laidTests := true, laidLooks := .later }
def FnUnpack2UptoCardSaid : Prop := Claim7.holds Tryd.pinned (.plain (OpenSpec.upto fnUnpack2Spec)) fnUnpack2UptoCard

/-- THE SECOND FORM's CARD OF 'laws.FnUnpack6'. -/
def fnUnpack6UptoCard : Claim7 := { stood := { row := fnUnpack6UptoRow, standIns := [], harness := (true, "3e306fe3b3d09a38da0de4a3dafebb6149c739d2c2f9dc050fdb9474815e9e79"), looks := true }, kinds := [], alts := [], laidByText := true, laidKinds := [.sentinel, .sentinel, .sentinel], laidTests := true, laidLooks := .later }
def FnUnpack6UptoCardSaid : Prop := Claim7.holds Tryd.pinned (.plain (OpenSpec.upto fnUnpack6Spec)) fnUnpack6UptoCard

/-- THE SECOND FORM's CARD OF 'laws.FnUnpack10'. -/
def fnUnpack10UptoCard : Claim7 := { stood := { row := fnUnpack10UptoRow, standIns := [], harness := (true, "3e306fe3b3d09a38da0de4a3dafebb6149c739d2c2f9dc050fdb9474815e9e79"), looks := true }, kinds := [], alts := [], laidByText := true, laidKinds := [.sentinel, .sentinel, .sentinel], laidTests := true, laidLooks := .later }
def FnUnpack10UptoCardSaid : Prop := Claim7.holds Tryd.pinned (.plain (OpenSpec.upto fnUnpack10Spec)) fnUnpack10UptoCard

/-- THE SECOND FORM's CARD OF 'laws.FnUnpack14'. -/
def fnUnpack14UptoCard : Claim7 := { stood := { row := fnUnpack14UptoRow, standIns := [], harness := (true, "3e306fe3b3d09a38da0de4a3dafebb6149c739d2c2f9dc050fdb9474815e9e79"), looks := true }, kinds := [], alts := [], laidByText := true, laidKinds := [.sentinel, .sentinel, .sentinel], laidTests := true, laidLooks := .later }
def FnUnpack14UptoCardSaid : Prop := Claim7.holds Tryd.pinned (.plain (OpenSpec.upto fnUnpack14Spec)) fnUnpack14UptoCard

/-- THE SECOND FORM's CARD OF 'laws.FnUnpack18'. -/
def fnUnpack18UptoCard : Claim7 := { stood := { row := fnUnpack18UptoRow, standIns := [], harness := (true, "3e306fe3b3d09a38da0de4a3dafebb6149c739d2c2f9dc050fdb9474815e9e79"), looks := true }, kinds := [], alts := [], laidByText := true, laidKinds := [.sentinel, .sentinel, .sentinel], laidTests := true, laidLooks := .later }
def FnUnpack18UptoCardSaid : Prop := Claim7.holds Tryd.pinned (.plain (OpenSpec.upto fnUnpack18Spec)) fnUnpack18UptoCard

/-- THE SECOND FORM's CARD OF 'laws.FnUnpack22'. -/
def fnUnpack22UptoCard : Claim7 := { stood := { row := fnUnpack22UptoRow, standIns := [], harness := (true, "3e306fe3b3d09a38da0de4a3dafebb6149c739d2c2f9dc050fdb9474815e9e79"), looks := true }, kinds := [], alts := [], laidByText := true, laidKinds := [.sentinel, .sentinel, .sentinel], laidTests := true, laidLooks := .later }
def FnUnpack22UptoCardSaid : Prop := Claim7.holds Tryd.pinned (.plain (OpenSpec.upto fnUnpack22Spec)) fnUnpack22UptoCard

/-- THE SECOND FORM's CARD OF 'laws.FnUnpack26'. -/
def fnUnpack26UptoCard : Claim7 := { stood := { row := fnUnpack26UptoRow, standIns := [], harness := (true, "3e306fe3b3d09a38da0de4a3dafebb6149c739d2c2f9dc050fdb9474815e9e79"), looks := true }, kinds := [], alts := [], laidByText := true, laidKinds := [.sentinel, .sentinel, .sentinel], laidTests := true, laidLooks := .later }
def FnUnpack26UptoCardSaid : Prop := Claim7.holds Tryd.pinned (.plain (OpenSpec.upto fnUnpack26Spec)) fnUnpack26UptoCard

/-- THE SECOND FORM's CARD OF 'laws.FnUnpack30'. -/
def fnUnpack30UptoCard : Claim7 := { stood := { row := fnUnpack30UptoRow, standIns := [], harness := (true, "3e306fe3b3d09a38da0de4a3dafebb6149c739d2c2f9dc050fdb9474815e9e79"), looks := true }, kinds := [], alts := [], laidByText := true, laidKinds := [.sentinel, .sentinel, .sentinel], laidTests := true, laidLooks := .later }
def FnUnpack30UptoCardSaid : Prop := Claim7.holds Tryd.pinned (.plain (OpenSpec.upto fnUnpack30Spec)) fnUnpack30UptoCard
end Rows
end Go.Proofs.YtngihompgcjlmaaDoor

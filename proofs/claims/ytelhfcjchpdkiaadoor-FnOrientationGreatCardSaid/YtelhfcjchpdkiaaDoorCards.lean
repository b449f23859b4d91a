/-
  DERIVED. GIVEN WITH THE SEED: THE CARDS: each row of YtelhfcjchpdkiaaDoorRows.lean that lists a variable, with what it lists TIED to the program's text (the seventh form; the later family's looks); each row that meets fmt, with fmt's text TOLD by the authors' own Lean function (tested against real Go, not proved from fmt's source: count such statements apart). THE CARD IS WHAT COUNTS. Prove the row's statement (the work); the ties are given (YtelhfcjchpdkiaaDoorTie.lean); close each card by the builder's one call (the guide's Derived/Test/ToyasCard.lean, 'card_holds'). Laid BY PROGRAM, IN A SANDBOX (cutbox-door.mjs). By AI agents, Wed Nov 11 2026. No macro, syntax, notation, axiom, sorry.
-/
import Derived.Test.YtelhfcjchpdkiaaDoorRows
import GoSem.ClaimSeven
namespace Go.Proofs.YtelhfcjchpdkiaaDoor
namespace Rows

/-- THE TIED CARD OF 'laws.FnOrientationGreat'. -/
def fnOrientationGreatCard : Claim7 := { stood := { row := fnOrientationGreatRow, standIns := [], harness := (true, "7bb2481419cd9b73411e2170b040da702d2cfa7fa254a386083f14f06e163cee"), looks := false }, kinds := [], alts := [], laidByText := true, laidKinds := [.data], laidTests := true, laidLooks := .later }
def FnOrientationGreatCardSaid : Prop := Claim7.holds Tryd.pinned (.plain (OpenSpec.ofChange fnOrientationGreatSpec)) fnOrientationGreatCard

/-- THE TIED CARD OF 'laws.FnRingIsCCW'. -/
def fnRingIsCCWCard : Claim7 := { stood := { row := fnRingIsCCWRow, standIns := [], harness := (true, "7bb2481419cd9b73411e2170b040da702d2cfa7fa254a386083f14f06e163cee"), looks := false }, kinds := [], alts := [], laidByText := true, laidKinds := [.data], laidTests := true, laidLooks := .later }
def FnRingIsCCWCardSaid : Prop := Claim7.holds Tryd.pinned (.plain (OpenSpec.ofChange fnRingIsCCWSpec)) fnRingIsCCWCard

/-- THE SECOND FORM's CARD OF 'laws.FnOrientationGreat'. -/
def fnOrientationGreatUptoCard : Claim7 := { stood := { row := fnOrientationGreatUptoRow, standIns := [], harness := (true, "7bb2481419cd9b73411e2170b040da702d2cfa7fa254a386083f14f06e163cee"), looks := false }, kinds := [], alts := [], laidByText := true, laidKinds := [.data], laidTests := true, laidLooks := .later }
def FnOrientationGreatUptoCardSaid : Prop := Claim7.holds Tryd.pinned (.plain (OpenSpec.upto fnOrientationGreatSpec)) fnOrientationGreatUptoCard

/-- THE SECOND FORM's CARD OF 'laws.FnRingIsCCW'. -/
def fnRingIsCCWUptoCard : Claim7 := { stood := { row := fnRingIsCCWUptoRow, standIns := [], harness := (true, "7bb2481419cd9b73411e2170b040da702d2cfa7fa254a386083f14f06e163cee"), looks := false }, kinds := [], alts := [], laidByText := true, laidKinds := [.data], laidTests := true, laidLooks := .later }
def FnRingIsCCWUptoCardSaid : Prop := Claim7.holds Tryd.pinned (.plain (OpenSpec.upto fnRingIsCCWSpec)) fnRingIsCCWUptoCard
end Rows
end Go.Proofs.YtelhfcjchpdkiaaDoor

/-
  DERIVED. GIVEN WITH THE SEED: THE CARDS: each row of YtjalgjeibnjinaaDoorRows.lean that lists a variable, with what it lists TIED to the program's text (the seventh form; the later family's looks); each row that meets fmt, with fmt's text TOLD by the authors' own Lean function (tested against real Go, not proved from fmt's source: count such statements apart). THE CARD IS WHAT COUNTS. Prove the row's statement (the work); the ties are given (YtjalgjeibnjinaaDoorTie.lean); close each card by the builder's one call (the guide's Derived/Test/ToyasCard.lean, 'card_holds'). Laid BY PROGRAM, IN A SANDBOX (cutbox-door.mjs). By AI agents, Wed Nov 11 2026. No macro, syntax, notation, axiom, sorry.
-/
import Derived.Test.YtjalgjeibnjinaaDoorRows
import GoSem.ClaimSeven
namespace Go.Proofs.YtjalgjeibnjinaaDoor
namespace Rows

/-- THE TIED CARD OF 'laws.FnHilbertBegins'. -/
def fnHilbertBeginsCard : Claim7 := { stood := { row := fnHilbertBeginsRow, standIns := [], harness := (true, "bdc906ab3c9171884845a8462579e0229c0474c542fa7cd412b2b997470cf409"), looks := true }, kinds := [], alts := [], laidByText := true, laidKinds := [.sentinel, .sentinel], laidTests := true, laidLooks := .later }
def FnHilbertBeginsCardSaid : Prop := Claim7.holds Tryd.pinned (.plain (OpenSpec.ofChange fnHilbertBeginsSpec)) fnHilbertBeginsCard

/-- THE TIED CARD OF 'laws.FnHilbertBack'. -/
def fnHilbertBackCard : Claim7 := { stood := { row := fnHilbertBackRow, standIns := [], harness := (true, "bdc906ab3c9171884845a8462579e0229c0474c542fa7cd412b2b997470cf409"), looks := true }, kinds := [], alts := [], laidByText := true, laidKinds := [.sentinel, .sentinel], laidTests := true, laidLooks := .later }
def FnHilbertBackCardSaid : Prop := Claim7.holds Tryd.pinned (.plain (OpenSpec.ofChange fnHilbertBackSpec)) fnHilbertBackCard

/-- THE TIED CARD OF 'laws.FnReadFlat0'. -/
def fnReadFlat0Card : Claim7 := { stood := { row := fnReadFlat0Row, standIns := [], harness := (true, "bdc906ab3c9171884845a8462579e0229c0474c542fa7cd412b2b997470cf409"), looks := true }, kinds := [], alts := [], laidByText := true, laidKinds := [.sentinel, .sentinel, .sentinel], laidTests := true, laidLooks := .later }
def FnReadFlat0CardSaid : Prop := Claim7.holds Tryd.pinned (.plain (OpenSpec.ofChange fnReadFlat0Spec)) fnReadFlat0Card

/-- THE TIED CARD OF 'laws.FnWriteFlat1'. -/
def fnWriteFlat1Card : Claim7 := { stood := { row := fnWriteFlat1Row, standIns := [], harness := (true, "bdc906ab3c9171884845a8462579e0229c0474c542fa7cd412b2b997470cf409"), looks := true }, kinds := [], alts := [], laidByText := true, laidKinds := [.sentinel, .sentinel, .sentinel, .data], laidTests := true, laidLooks := .later }
def FnWriteFlat1CardSaid : Prop := Claim7.holds Tryd.pinned (.plain (OpenSpec.ofChange fnWriteFlat1Spec)) fnWriteFlat1Card

/-- THE TIED CARD OF 'laws.FnMatVec'. -/
def fnMatVecCard : Claim7 := { stood := { row := fnMatVecRow, standIns := [], harness := (true, "bdc906ab3c9171884845a8462579e0229c0474c542fa7cd412b2b997470cf409"), looks := true }, kinds := [], alts := [], laidByText := true, laidKinds := [.data, .data, .data], laidTests := true, laidLooks := .later }
def FnMatVecCardSaid : Prop := Claim7.holds Tryd.pinned (.plain (OpenSpec.ofChange fnMatVecSpec)) fnMatVecCard

/-- THE TIED CARD OF 'laws.FnMatSkew'. -/
def fnMatSkewCard : Claim7 := { stood := { row := fnMatSkewRow, standIns := [], harness := (true, "bdc906ab3c9171884845a8462579e0229c0474c542fa7cd412b2b997470cf409"), looks := true }, kinds := [], alts := [], laidByText := true, laidKinds := [.data, .data, .data], laidTests := true, laidLooks := .later }
def FnMatSkewCardSaid : Prop := Claim7.holds Tryd.pinned (.plain (OpenSpec.ofChange fnMatSkewSpec)) fnMatSkewCard

/-- THE SECOND FORM's CARD OF 'laws.FnHilbertBegins'. -/
def fnHilbertBeginsUptoCard : Claim7 := { stood := { row := fnHilbertBeginsUptoRow, standIns := [], harness := (true, "bdc906ab3c9171884845a8462579e0229c0474c542fa7cd412b2b997470cf409"), looks := true }, kinds := [], alts := [], laidByText := true, laidKinds := [.sentinel, .sentinel], laidTests := true, laidLooks := .later }
def FnHilbertBeginsUptoCardSaid : Prop := Claim7.holds Tryd.pinned (.plain (OpenSpec.upto fnHilbertBeginsSpec)) fnHilbertBeginsUptoCard

/-- THE SECOND FORM's CARD OF 'laws.FnHilbertBack'. -/
def fnHilbertBackUptoCard : Claim7 := { stood := { row := fnHilbertBackUptoRow, standIns := [], harness := (true, "bdc906ab3c9171884845a8462579e0229c0474c542fa7cd412b2b997470cf409"), looks := true }, kinds := [], alts := [], laidByText := true, laidKinds := [.sentinel, .sentinel], laidTests := true, laidLooks := .later }
def FnHilbertBackUptoCardSaid : Prop := Claim7.holds Tryd.pinned (.plain (OpenSpec.upto fnHilbertBackSpec)) fnHilbertBackUptoCard

/-- THE SECOND FORM's CARD OF 'laws.FnReadFlat0'. -/
def fnReadFlat0UptoCard : Claim7 := { stood := { row := fnReadFlat0UptoRow, standIns := [], harness := (true, "bdc906ab3c9171884845a8462579e0229c0474c542fa7cd412b2b997470cf409"), looks := true }, kinds := [], alts := [], laidByText := true, laidKinds := [.sentinel, .sentinel, .sentinel], laidTests := true, laidLooks := .later }
def FnReadFlat0UptoCardSaid : Prop := Claim7.holds Tryd.pinned (.plain (OpenSpec.upto fnReadFlat0Spec)) fnReadFlat0UptoCard

/-- THE SECOND FORM's CARD OF 'laws.FnWriteFlat1'. -/
def fnWriteFlat1UptoCard : Claim7 := { stood := { row := fnWriteFlat1UptoRow, standIns := [], harness := (true, "bdc906ab3c9171884845a8462579e0229c0474c542fa7cd412b2b997470cf409"), looks := true }, kinds := [], alts := [], laidByText := true, laidKinds := [.sentinel, .sentinel, .sentinel, .data], laidTests := true, laidLooks := .later }
def FnWriteFlat1UptoCardSaid : Prop := Claim7.holds Tryd.pinned (.plain (OpenSpec.upto fnWriteFlat1Spec)) fnWriteFlat1UptoCard

/-- THE SECOND FORM's CARD OF 'laws.FnMatVec'. -/
def fnMatVecUptoCard : Claim7 := { stood := { row := fnMatVecUptoRow, standIns := [], harness := (true, "bdc906ab3c9171884845a8462579e0229c0474c542fa7cd412b2b997470cf409"), looks := true }, kinds := [], alts := [], laidByText := true, laidKinds := [.data, .data, .data], laidTests := true, laidLooks := .later }
def FnMatVecUptoCardSaid : Prop := Claim7.holds Tryd.pinned (.plain (OpenSpec.upto fnMatVecSpec)) fnMatVecUptoCard

/-- THE SECOND FORM's CARD OF 'laws.FnMatSkew'. -/
def fnMatSkewUptoCard : Claim7 := { stood := { row := fnMatSkewUptoRow, standIns := [], harness := (true, "bdc906ab3c9171884845a8462579e0229c0474c542fa7cd412b2b997470cf409"), looks := true }, kinds := [], alts := [], laidByText := true, laidKinds := [.data, .data, .data], laidTests := true, laidLooks := .later }
def FnMatSkewUptoCardSaid : Prop := Claim7.holds Tryd.pinned (.plain (OpenSpec.upto fnMatSkewSpec)) fnMatSkewUptoCard
end Rows
end Go.Proofs.YtjalgjeibnjinaaDoor

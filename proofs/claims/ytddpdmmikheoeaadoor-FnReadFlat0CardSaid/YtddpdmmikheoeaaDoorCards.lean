/-
  DERIVED. GIVEN WITH THE SEED: THE CARDS: each row of YtddpdmmikheoeaaDoorRows.lean that lists a variable, with what it lists TIED to the program's text (the seventh form; the later family's looks); each row that meets fmt, with fmt's text TOLD by the authors' own Lean function (tested against real Go, not proved from fmt's source: count such statements apart). THE CARD IS WHAT COUNTS. Prove the row's statement (the work); the ties are given (YtddpdmmikheoeaaDoorTie.lean); close each card by the builder's one call (the guide's Derived/Test/ToyasCard.lean, 'card_holds'). Laid BY PROGRAM, IN A SANDBOX (cutbox-door.mjs). By AI agents, Wed Nov 11 2026. No macro, syntax, notation, axiom, sorry.
-/
import Derived.Test.YtddpdmmikheoeaaDoorRows
import GoSem.ClaimSeven
namespace Go.Proofs.YtddpdmmikheoeaaDoor
namespace Rows

/-- THE TIED CARD OF 'laws.FnReadFlat0'. -/
def fnReadFlat0Card : Claim7 := { stood := { row := fnReadFlat0Row, standIns := [], harness := (true, "b3915a11794dfc7b76631e9cbf98a5b1a11eb29848e8dd4970d9ed8148641d1e"), looks := true }, kinds := [], alts := [], laidByText := true, laidKinds := [.sentinel, .sentinel, .sentinel], laidTests := true, laidLooks := .later }
def FnReadFlat0CardSaid : Prop := Claim7.holds Tryd.pinned (.plain (OpenSpec.ofChange fnReadFlat0Spec)) fnReadFlat0Card

/-- THE TIED CARD OF 'laws.FnWriteFlat1'. -/
def fnWriteFlat1Card : Claim7 := { stood := { row := fnWriteFlat1Row, standIns := [], harness := (true, "b3915a11794dfc7b76631e9cbf98a5b1a11eb29848e8dd4970d9ed8148641d1e"), looks := true }, kinds := [], alts := [], laidByText := true, laidKinds := [.sentinel, .sentinel, .sentinel, .data], laidTests := true, laidLooks := .later }
def FnWriteFlat1CardSaid : Prop := Claim7.holds Tryd.pinned (.plain (OpenSpec.ofChange fnWriteFlat1Spec)) fnWriteFlat1Card

/-- THE SECOND FORM's CARD OF 'laws.FnReadFlat0'. -/
def fnReadFlat0UptoCard : Claim7 := { stood := { row := fnReadFlat0UptoRow, standIns := [], harness := (true, "b3915a11794dfc7b76631e9cbf98a5b1a11eb29848e8dd4970d9ed8148641d1e"), looks := true }, kinds := [], alts := [], laidByText := true, laidKinds := [.sentinel, .sentinel, .sentinel], laidTests := true, laidLooks := .later }
def FnReadFlat0UptoCardSaid : Prop := Claim7.holds Tryd.pinned (.plain (OpenSpec.upto fnReadFlat0Spec)) fnReadFlat0UptoCard

/-- THE SECOND FORM's CARD OF 'laws.FnWriteFlat1'. -/
def fnWriteFlat1UptoCard : Claim7 := { stood := { row := fnWriteFlat1UptoRow, standIns := [], harness := (true, "b3915a11794dfc7b76631e9cbf98a5b1a11eb29848e8dd4970d9ed8148641d1e"), looks := true }, kinds := [], alts := [], laidByText := true, laidKinds := [.sentinel, .sentinel, .sentinel, .data], laidTests := true, laidLooks := .later }
def FnWriteFlat1UptoCardSaid : Prop := Claim7.holds Tryd.pinned (.plain (OpenSpec.upto fnWriteFlat1Spec)) fnWriteFlat1UptoCard
end Rows
end Go.Proofs.YtddpdmmikheoeaaDoor

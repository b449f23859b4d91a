/-
  DERIVED. GIVEN WITH THE SEED: THE CARDS: each row of YtmilmnedgadidaaDoorRows.lean that lists a variable, with what it lists TIED to the program's text (the seventh form; the later family's looks); each row that meets fmt, with fmt's text TOLD by the authors' own Lean function (tested against real Go, not proved from fmt's source: count such statements apart). THE CARD IS WHAT COUNTS. Prove the row's statement (the work); the ties are given (YtmilmnedgadidaaDoorTie.lean); close each card by the builder's one call (the guide's Derived/Test/ToyasCard.lean, 'card_holds'). Laid BY PROGRAM, IN A SANDBOX (cutbox-door.mjs). By AI agents, Wed Nov 11 2026. No macro, syntax, notation, axiom, sorry.
-/
import Derived.Test.YtmilmnedgadidaaDoorRows
import GoSem.ClaimSeven
namespace Go.Proofs.YtmilmnedgadidaaDoor
namespace Rows

/-- THE TIED CARD OF 'laws.FnVerifyEnds'. -/
def fnVerifyEndsCard : Claim7 := { stood := { row := fnVerifyEndsRow, standIns := [], harness := (true, "93ae2a7744f52143a66da388d810cba7375d2f4199dd0c1a0602a570588fa754"), looks := true }, kinds := [], alts := [], laidByText := true, laidKinds := [.sentinel, .sentinel, .sentinel, .sentinel, .sentinel, .sentinel, .sentinel, .sentinel], laidTests := true, laidLooks := .later }
def FnVerifyEndsCardSaid : Prop := Claim7.holds Tryd.pinned (.plain (OpenSpec.ofChange fnVerifyEndsSpec)) fnVerifyEndsCard

/-- THE SECOND FORM's CARD OF 'laws.FnVerifyEnds'. -/
def fnVerifyEndsUptoCard : Claim7 := { stood := { row := fnVerifyEndsUptoRow, standIns := [], harness := (true, "93ae2a7744f52143a66da388d810cba7375d2f4199dd0c1a0602a570588fa754"), looks := true }, kinds := [], alts := [], laidByText := true, laidKinds := [.sentinel, .sentinel, .sentinel, .sentinel, .sentinel, .sentinel, .sentinel, .sentinel], laidTests := true, laidLooks := .later }
def FnVerifyEndsUptoCardSaid : Prop := Claim7.holds Tryd.pinned (.plain (OpenSpec.upto fnVerifyEndsSpec)) fnVerifyEndsUptoCard
end Rows
end Go.Proofs.YtmilmnedgadidaaDoor

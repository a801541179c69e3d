/-
  DERIVED. GIVEN WITH THE SEED: THE CARDS: each row of YtincgkolpicipaaDoorRows.lean that lists a variable, with what it lists TIED to the program's text (the seventh form; the later family's looks); each row that meets fmt, with fmt's text TOLD by the authors' own Lean function (tested against real Go, not proved from fmt's source: count such statements apart). THE CARD IS WHAT COUNTS. Prove the row's statement (the work); the ties are given (YtincgkolpicipaaDoorTie.lean); close each card by the builder's one call (the guide's Derived/Test/ToyasCard.lean, 'card_holds'). Laid BY PROGRAM, IN A SANDBOX (cutbox-door.mjs). By AI agents, Wed Nov 11 2026. No macro, syntax, notation, axiom, sorry.
-/
import Derived.Test.YtincgkolpicipaaDoorRows
import GoSem.ClaimSeven
namespace Go.Proofs.YtincgkolpicipaaDoor
namespace Rows

/-- THE TIED CARD OF 'laws.FnStepsTwice'. -/
def fnStepsTwiceCard : Claim7 := { stood := { row := fnStepsTwiceRow, standIns := [], harness := (true, "d4d87f32006d5b6a101d3c3d215cbcc8d8f31e32c2d593b3365c2c08412172f1"), looks := true }, kinds := [], alts := [], laidByText := true, laidKinds := [.data, .pinned], laidTests := true, laidLooks := .later }
def FnStepsTwiceCardSaid : Prop := Claim7.holds Tryd.pinned (.plain (OpenSpec.ofChange fnStepsTwiceSpec)) fnStepsTwiceCard

/-- THE SECOND FORM's CARD OF 'laws.FnStepsTwice'. -/
def fnStepsTwiceUptoCard : Claim7 := { stood := { row := fnStepsTwiceUptoRow, standIns := [], harness := (true, "d4d87f32006d5b6a101d3c3d215cbcc8d8f31e32c2d593b3365c2c08412172f1"), looks := true }, kinds := [], alts := [], laidByText := true, laidKinds := [.data, .pinned], laidTests := true, laidLooks := .later }
def FnStepsTwiceUptoCardSaid : Prop := Claim7.holds Tryd.pinned (.plain (OpenSpec.upto fnStepsTwiceSpec)) fnStepsTwiceUptoCard
end Rows
end Go.Proofs.YtincgkolpicipaaDoor

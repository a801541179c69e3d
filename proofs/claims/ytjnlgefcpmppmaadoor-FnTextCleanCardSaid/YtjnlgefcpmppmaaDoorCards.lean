/-
  DERIVED. GIVEN WITH THE SEED: THE CARDS: each row of YtjnlgefcpmppmaaDoorRows.lean that lists a variable, with what it lists TIED to the program's text (the seventh form; the later family's looks); each row that meets fmt, with fmt's text TOLD by the authors' own Lean function (tested against real Go, not proved from fmt's source: count such statements apart). THE CARD IS WHAT COUNTS. Prove the row's statement (the work); the ties are given (YtjnlgefcpmppmaaDoorTie.lean); close each card by the builder's one call (the guide's Derived/Test/ToyasCard.lean, 'card_holds'). Laid BY PROGRAM, IN A SANDBOX (cutbox-door.mjs). By AI agents, Wed Nov 11 2026. No macro, syntax, notation, axiom, sorry.
-/
import Derived.Test.YtjnlgefcpmppmaaDoorRows
import GoSem.ClaimSeven
namespace Go.Proofs.YtjnlgefcpmppmaaDoor
namespace Rows

/-- THE TIED CARD OF 'laws.FnTextLength'. -/
def fnTextLengthCard : Claim7 := { stood := { row := fnTextLengthRow, standIns := [], harness := (true, "e2467e80e7c05e4092824041e4db789588521fdb805fc0aa06dd4c35c8885dbb"), looks := true }, kinds := [], alts := [], laidByText := true, laidKinds := [.data, .pinned], laidTests := true, laidLooks := .later }
def FnTextLengthCardSaid : Prop := Claim7.holds Tryd.pinned (.plain (OpenSpec.ofChange fnTextLengthSpec)) fnTextLengthCard

/-- THE TIED CARD OF 'laws.FnTextClean'. -/
def fnTextCleanCard : Claim7 := { stood := { row := fnTextCleanRow, standIns := [], harness := (true, "e2467e80e7c05e4092824041e4db789588521fdb805fc0aa06dd4c35c8885dbb"), looks := true }, kinds := [], alts := [], laidByText := true, laidKinds := [.data, .data, .data, .data, .sentinel, .pinned], laidTests := true, laidLooks := .later }
def FnTextCleanCardSaid : Prop := Claim7.holds Tryd.pinned (.plain (OpenSpec.ofChange fnTextCleanSpec)) fnTextCleanCard

/-- THE TIED CARD OF 'laws.FnIntegerExact'. -/
def fnIntegerExactCard : Claim7 := { stood := { row := fnIntegerExactRow, standIns := [], harness := (true, "e2467e80e7c05e4092824041e4db789588521fdb805fc0aa06dd4c35c8885dbb"), looks := true }, kinds := [], alts := [], laidByText := true, laidKinds := [.data, .data, .data, .sentinel, .sentinel], laidTests := true, laidLooks := .later }
def FnIntegerExactCardSaid : Prop := Claim7.holds Tryd.pinned (.plain (OpenSpec.ofChange fnIntegerExactSpec)) fnIntegerExactCard

/-- THE SECOND FORM's CARD OF 'laws.FnTextLength'. -/
def fnTextLengthUptoCard : Claim7 := { stood := { row := fnTextLengthUptoRow, standIns := [], harness := (true, "e2467e80e7c05e4092824041e4db789588521fdb805fc0aa06dd4c35c8885dbb"), looks := true }, kinds := [], alts := [], laidByText := true, laidKinds := [.data, .pinned], laidTests := true, laidLooks := .later }
def FnTextLengthUptoCardSaid : Prop := Claim7.holds Tryd.pinned (.plain (OpenSpec.upto fnTextLengthSpec)) fnTextLengthUptoCard

/-- THE SECOND FORM's CARD OF 'laws.FnTextClean'. -/
def fnTextCleanUptoCard : Claim7 := { stood := { row := fnTextCleanUptoRow, standIns := [], harness := (true, "e2467e80e7c05e4092824041e4db789588521fdb805fc0aa06dd4c35c8885dbb"), looks := true }, kinds := [], alts := [], laidByText := true, laidKinds := [.data, .data, .data, .data, .sentinel, .pinned], laidTests := true, laidLooks := .later }
def FnTextCleanUptoCardSaid : Prop := Claim7.holds Tryd.pinned (.plain (OpenSpec.upto fnTextCleanSpec)) fnTextCleanUptoCard

/-- THE SECOND FORM's CARD OF 'laws.FnIntegerExact'. -/
def fnIntegerExactUptoCard : Claim7 := { stood := { row := fnIntegerExactUptoRow, standIns := [], harness := (true, "e2467e80e7c05e4092824041e4db789588521fdb805fc0aa06dd4c35c8885dbb"), looks := true }, kinds := [], alts := [], laidByText := true, laidKinds := [.data, .data, .data, .sentinel, .sentinel], laidTests := true, laidLooks := .later }
def FnIntegerExactUptoCardSaid : Prop := Claim7.holds Tryd.pinned (.plain (OpenSpec.upto fnIntegerExactSpec)) fnIntegerExactUptoCard
end Rows
end Go.Proofs.YtjnlgefcpmppmaaDoor

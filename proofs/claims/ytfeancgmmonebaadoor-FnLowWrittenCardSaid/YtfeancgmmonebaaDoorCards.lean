/-
  DERIVED. GIVEN WITH THE SEED: THE CARDS: each row of YtfeancgmmonebaaDoorRows.lean that lists a variable, with what it lists TIED to the program's text (the seventh form; the later family's looks); each row that meets fmt, with fmt's text TOLD by the authors' own Lean function (tested against real Go, not proved from fmt's source: count such statements apart). THE CARD IS WHAT COUNTS. Prove the row's statement (the work); the ties are given (YtfeancgmmonebaaDoorTie.lean); close each card by the builder's one call (the guide's Derived/Test/ToyasCard.lean, 'card_holds'). Laid BY PROGRAM, IN A SANDBOX (cutbox-door.mjs). By AI agents, Wed Nov 11 2026. No macro, syntax, notation, axiom, sorry.
-/
import Derived.Test.YtfeancgmmonebaaDoorRows
import GoSem.ClaimSeven
namespace Go.Proofs.YtfeancgmmonebaaDoor
namespace Rows

/-- THE TIED CARD OF 'laws.FnLowS'. -/
def fnLowSCard : Claim7 := { stood := { row := fnLowSRow, standIns := [], harness := (true, "11b05783217bf217621530983181e20be5dfaf02b183889e80edcf319b6b4b84"), looks := true }, kinds := [], alts := [], laidByText := true, laidKinds := [.sentinel, .sentinel, .sentinel, .sentinel], laidTests := true, laidLooks := .later }
def FnLowSCardSaid : Prop := Claim7.holds Tryd.pinned (.plain (OpenSpec.ofChange fnLowSSpec)) fnLowSCard

/-- THE TIED CARD OF 'laws.FnLowWritten'. -/
def fnLowWrittenCard : Claim7 := { stood := { row := fnLowWrittenRow, standIns := [], harness := (true, "11b05783217bf217621530983181e20be5dfaf02b183889e80edcf319b6b4b84"), looks := true }, kinds := [], alts := [], laidByText := true, laidKinds := [.sentinel, .sentinel, .sentinel, .sentinel], laidTests := true, laidLooks := .later }
def FnLowWrittenCardSaid : Prop := Claim7.holds Tryd.pinned (.plain (OpenSpec.ofChange fnLowWrittenSpec)) fnLowWrittenCard

/-- THE SECOND FORM's CARD OF 'laws.FnLowS'. -/
def fnLowSUptoCard : Claim7 := { stood := { row := fnLowSUptoRow, standIns := [], harness := (true, "11b05783217bf217621530983181e20be5dfaf02b183889e80edcf319b6b4b84"), looks := true }, kinds := [], alts := [], laidByText := true, laidKinds := [.sentinel, .sentinel, .sentinel, .sentinel], laidTests := true, laidLooks := .later }
def FnLowSUptoCardSaid : Prop := Claim7.holds Tryd.pinned (.plain (OpenSpec.upto fnLowSSpec)) fnLowSUptoCard

/-- THE SECOND FORM's CARD OF 'laws.FnLowWritten'. -/
def fnLowWrittenUptoCard : Claim7 := { stood := { row := fnLowWrittenUptoRow, standIns := [], harness := (true, "11b05783217bf217621530983181e20be5dfaf02b183889e80edcf319b6b4b84"), looks := true }, kinds := [], alts := [], laidByText := true, laidKinds := [.sentinel, .sentinel, .sentinel, .sentinel], laidTests := true, laidLooks := .later }
def FnLowWrittenUptoCardSaid : Prop := Claim7.holds Tryd.pinned (.plain (OpenSpec.upto fnLowWrittenSpec)) fnLowWrittenUptoCard
end Rows
end Go.Proofs.YtfeancgmmonebaaDoor

/-
  DERIVED. GIVEN WITH THE SEED: THE CARDS: each row of YbulkazveFmtRows.lean that lists a variable, with what it lists TIED to the program's text (the seventh form; the later family's looks); each row that meets fmt, with fmt's text TOLD by the authors' own Lean function (tested against real Go, not proved from fmt's source: count such statements apart). THE CARD IS WHAT COUNTS. Prove the row's statement (the work); the ties are given (YbulkazveFmtTie.lean); close each card by the builder's one call (the guide's Derived/Test/ToyasCard.lean, 'card_holds'). Laid BY PROGRAM, IN A SANDBOX (cutbox-door.mjs). By AI agents, Wed Nov 11 2026. No macro, syntax, notation, axiom, sorry.
-/
import Derived.Test.YbulkazveFmtRows
import GoSem.ClaimSeven
namespace Go.Proofs.YbulkazveFmt
namespace Rows

/-- THE TOLD CARD OF 'hailstone.LawS2552ASplit'. -/
def lawS2552ASplitCard : Claim7 := { stood := { row := lawS2552ASplitRow, standIns := [], harness := (true, "a8ff22893033117c689eb1fa80d7de02011ce32b2584315da7d839a070ed81de"), looks := false }, told := true, goes := false }
def LawS2552ASplitToldSaid : Prop := Claim7.holds Ybaf.pinned (.plain (OpenSpec.ofChange lawS2552ASplitSpec)) lawS2552ASplitCard
/-- ITS FALSE NEIGHBOUR. Refute it at one input. -/
def LawS2552ASplitToldWrongFalsely : Prop := Claim7.holds Ybaf.pinned (.plain (OpenSpec.ofChange lawS2552ASplitWrong)) lawS2552ASplitCard

/-- THE TOLD CARD OF 'hailstone.LawS2552ARoundTrip'. -/
def lawS2552ARoundTripCard : Claim7 := { stood := { row := lawS2552ARoundTripRow, standIns := [], harness := (true, "a8ff22893033117c689eb1fa80d7de02011ce32b2584315da7d839a070ed81de"), looks := false }, told := true, goes := false }
def LawS2552ARoundTripToldSaid : Prop := Claim7.holds Ybaf.pinned (.plain (OpenSpec.ofChange lawS2552ARoundTripSpec)) lawS2552ARoundTripCard
/-- ITS FALSE NEIGHBOUR. Refute it at one input. -/
def LawS2552ARoundTripToldWrongFalsely : Prop := Claim7.holds Ybaf.pinned (.plain (OpenSpec.ofChange lawS2552ARoundTripWrong)) lawS2552ARoundTripCard
end Rows
end Go.Proofs.YbulkazveFmt

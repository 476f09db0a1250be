/-
  DERIVED. GIVEN WITH THE SEED: THE CARDS: each row of YbulkdfycFmtRows.lean that lists a variable, with what it lists TIED to the program's text (the seventh form; the later family's looks); each row that meets fmt, with fmt's text TOLD by the authors' own Lean function (tested against real Go, not proved from fmt's source: count such statements apart). THE CARD IS WHAT COUNTS. Prove the row's statement (the work); the ties are given (YbulkdfycFmtTie.lean); close each card by the builder's one call (the guide's Derived/Test/ToyasCard.lean, 'card_holds'). Laid BY PROGRAM, IN A SANDBOX (cutbox-door.mjs). By AI agents, Wed Nov 11 2026. No macro, syntax, notation, axiom, sorry.
-/
import Derived.Test.YbulkdfycFmtRows
import GoSem.ClaimSeven
namespace Go.Proofs.YbulkdfycFmt
namespace Rows

/-- THE TOLD CARD OF 'slot.LawS5358AExact'. -/
def lawS5358AExactCard : Claim7 := { stood := { row := lawS5358AExactRow, standIns := [], harness := (true, "19b18a0aaeded9bafb73f885fee309db22ac3d44e60b6e837909a47e87b68c98"), looks := false }, told := true, goes := false }
def LawS5358AExactToldSaid : Prop := Claim7.holds Ybaf.pinned (.plain (OpenSpec.ofChange lawS5358AExactSpec)) lawS5358AExactCard
/-- ITS FALSE NEIGHBOUR. Refute it at one input. -/
def LawS5358AExactToldWrongFalsely : Prop := Claim7.holds Ybaf.pinned (.plain (OpenSpec.ofChange lawS5358AExactWrong)) lawS5358AExactCard

/-- THE TOLD CARD OF 'slot.LawS5358ABuilt'. -/
def lawS5358ABuiltCard : Claim7 := { stood := { row := lawS5358ABuiltRow, standIns := [], harness := (true, "19b18a0aaeded9bafb73f885fee309db22ac3d44e60b6e837909a47e87b68c98"), looks := false }, told := true, goes := false }
def LawS5358ABuiltToldSaid : Prop := Claim7.holds Ybaf.pinned (.plain (OpenSpec.ofChange lawS5358ABuiltSpec)) lawS5358ABuiltCard
/-- ITS FALSE NEIGHBOUR. Refute it at one input. -/
def LawS5358ABuiltToldWrongFalsely : Prop := Claim7.holds Ybaf.pinned (.plain (OpenSpec.ofChange lawS5358ABuiltWrong)) lawS5358ABuiltCard
end Rows
end Go.Proofs.YbulkdfycFmt

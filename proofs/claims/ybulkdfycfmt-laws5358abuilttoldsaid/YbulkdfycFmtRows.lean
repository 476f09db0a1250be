/-
  No cell of these rows narrows 'for every input' (looked for: loops, veiled, ifaces, maps, wideKeys, modest, calm, conditions, laid).
  DERIVED. THE GIVEN ROWS OF THIS SEAT. 2 by the template 'for every input the law returns true; each argument reads behind the call as it read before'; 0 by the template 'total and deterministic' (their statements: YbulkdfycFmtTotals.lean).
  GIVEN WITH THE SEED: the statements are not yours to turn. If you find one false, say at which input.
  Laid BY PROGRAM, IN A SANDBOX (cutbox-rows.mjs): the forced cells as the released guide's own fill.sh prints them over the translation 56cb87a7fa093594… (all of the seat's roots in one cut). By AI agents, Wed Nov 11 2026. No macro, syntax, notation, axiom, sorry.
-/
import Derived.Test.YbulkdfycFmtChecked
import GoSem.Claim
import GoSem.ClaimJoined
import GoSem.ClaimMapViews
import Derived.JoinedTies
import Derived.KernelRfl
namespace Go.Proofs.YbulkdfycFmt
/- THE CELL 'sum', in the pinned program and in every row, IS THE sha256 OF THE DUMP (.gsa) THAT YbulkdfycFmtProg.lean LOADS. Nothing in Lean hashes anything: it is a label: what it is worth is what the hold of that sum in a sandbox is worth. -/
noncomputable def Ybaf.pinned : Pinned := { name := "ybulkdfycfmt", sum := "56cb87a7fa093594fa81a81bbb97e0ce10d2e20e93584ff9d51af289fb756b40", checked := Ybaf.checked }
namespace Rows
def none {H : Type} : Left H := { results := [], args := [] }

/-- 'slot.LawS5358AExact': WHATEVER THE INPUT: true; the input reads as it did. -/
def lawS5358AExactSpec : ChangeSpec := { name := "lawS5358AExact", fn := fun _ => fun
  | [d] => { results := [.lit (.bool true)], args := [d] }
  | _ => none }
def lawS5358AExactRow : OpenClaim := { program := "ybulkdfycfmt", sum := "56cb87a7fa093594fa81a81bbb97e0ce10d2e20e93584ff9d51af289fb756b40", func := "example.com/slot/slot.LawS5358AExact", spec := "lawS5358AExact", stops := ["fmt.errorf"], inPlace := ["fmt.errorf"], apart := false }
/-- NO THEOREM (fmt's text is open here; it may be false): for the released tool's asking of the row's closed facts alone. THE STATEMENT IS 'LawS5358AExactToldSaid' (YbulkdfycFmtCards.lean). -/
def LawS5358AExactFormAsk : Prop := lawS5358AExactRow.holds Ybaf.pinned (OpenSpec.ofChange lawS5358AExactSpec)

/-- ITS FALSE NEIGHBOUR: 'it returns false'. Refute it at one input. -/
def lawS5358AExactWrong : ChangeSpec := { name := "lawS5358AExact", fn := fun _ => fun
  | [d] => { results := [.lit (.bool false)], args := [d] }
  | _ => none }
def LawS5358AExactWrongFormAsk : Prop := lawS5358AExactRow.holds Ybaf.pinned (OpenSpec.ofChange lawS5358AExactWrong)

/-- 'slot.LawS5358ABuilt': WHATEVER THE INPUT: true; the input reads as it did. -/
def lawS5358ABuiltSpec : ChangeSpec := { name := "lawS5358ABuilt", fn := fun _ => fun
  | [d] => { results := [.lit (.bool true)], args := [d] }
  | _ => none }
def lawS5358ABuiltRow : OpenClaim := { program := "ybulkdfycfmt", sum := "56cb87a7fa093594fa81a81bbb97e0ce10d2e20e93584ff9d51af289fb756b40", func := "example.com/slot/slot.LawS5358ABuilt", spec := "lawS5358ABuilt", stops := ["fmt.errorf"], inPlace := ["fmt.errorf"], apart := false }
/-- NO THEOREM (fmt's text is open here; it may be false): for the released tool's asking of the row's closed facts alone. THE STATEMENT IS 'LawS5358ABuiltToldSaid' (YbulkdfycFmtCards.lean). -/
def LawS5358ABuiltFormAsk : Prop := lawS5358ABuiltRow.holds Ybaf.pinned (OpenSpec.ofChange lawS5358ABuiltSpec)

/-- ITS FALSE NEIGHBOUR: 'it returns false'. Refute it at one input. -/
def lawS5358ABuiltWrong : ChangeSpec := { name := "lawS5358ABuilt", fn := fun _ => fun
  | [d] => { results := [.lit (.bool false)], args := [d] }
  | _ => none }
def LawS5358ABuiltWrongFormAsk : Prop := lawS5358ABuiltRow.holds Ybaf.pinned (OpenSpec.ofChange lawS5358ABuiltWrong)

end Rows
end Go.Proofs.YbulkdfycFmt

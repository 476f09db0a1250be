/-
  No cell of these rows narrows 'for every input' (looked for: loops, veiled, ifaces, maps, wideKeys, modest, calm, conditions, laid).
  DERIVED. THE GIVEN ROWS OF THIS SEAT. 2 by the template 'for every input the law returns true; each argument reads behind the call as it read before'; 0 by the template 'total and deterministic' (their statements: YbulkdgauTotals.lean).
  GIVEN WITH THE SEED: the statements are not yours to turn. If you find one false, say at which input.
  Laid BY PROGRAM, IN A SANDBOX (cutbox-rows.mjs): the forced cells as the released guide's own fill.sh prints them over the translation c6d02e0269fbad32… (all of the seat's roots in one cut). By AI agents, Wed Nov 11 2026. No macro, syntax, notation, axiom, sorry.
-/
import Derived.Test.YbulkdgauChecked
import GoSem.Claim
import GoSem.ClaimJoined
import GoSem.ClaimMapViews
import Derived.JoinedTies
import Derived.KernelRfl
namespace Go.Proofs.Ybulkdgau
/- THE CELL 'sum', in the pinned program and in every row, IS THE sha256 OF THE DUMP (.gsa) THAT YbulkdgauProg.lean LOADS. Nothing in Lean hashes anything: it is a label: what it is worth is what the hold of that sum in a sandbox is worth. -/
noncomputable def Yba.pinned : Pinned := { name := "ybulkdgau", sum := "c6d02e0269fbad320d701e88aa4f56c62f0491c5b50302271b975b1ef8f17c72", checked := Yba.checked }
namespace Rows
def none {H : Type} : Left H := { results := [], args := [] }

/-- 'yarrow.LawS5363AModel': WHATEVER THE INPUT: true; the input reads as it did. -/
def lawS5363AModelSpec : ChangeSpec := { name := "lawS5363AModel", fn := fun _ => fun
  | [d] => { results := [.lit (.bool true)], args := [d] }
  | _ => none }
def lawS5363AModelRow : OpenClaim := { program := "ybulkdgau", sum := "c6d02e0269fbad320d701e88aa4f56c62f0491c5b50302271b975b1ef8f17c72", func := "example.com/yarrow/yarrow.LawS5363AModel", spec := "lawS5363AModel", plainKeys := false, apart := false }
def LawS5363AModelSaid : Prop := lawS5363AModelRow.holds Yba.pinned (OpenSpec.ofChange lawS5363AModelSpec)

/-- ITS FALSE NEIGHBOUR: 'it returns false'. Refute it at one input. -/
def lawS5363AModelWrong : ChangeSpec := { name := "lawS5363AModel", fn := fun _ => fun
  | [d] => { results := [.lit (.bool false)], args := [d] }
  | _ => none }
def LawS5363AModelWrongFalsely : Prop := lawS5363AModelRow.holds Yba.pinned (OpenSpec.ofChange lawS5363AModelWrong)

/-- 'yarrow.LawS5363ARaw': WHATEVER THE INPUT: true; the input reads as it did. -/
def lawS5363ARawSpec : ChangeSpec := { name := "lawS5363ARaw", fn := fun _ => fun
  | [d1, d2] => { results := [.lit (.bool true)], args := [d1, d2] }
  | _ => none }
def lawS5363ARawRow : OpenClaim := { program := "ybulkdgau", sum := "c6d02e0269fbad320d701e88aa4f56c62f0491c5b50302271b975b1ef8f17c72", func := "example.com/yarrow/yarrow.LawS5363ARaw", spec := "lawS5363ARaw", plainKeys := false, apart := false }
def LawS5363ARawSaid : Prop := lawS5363ARawRow.holds Yba.pinned (OpenSpec.ofChange lawS5363ARawSpec)

/-- ITS FALSE NEIGHBOUR: 'it returns false'. Refute it at one input. -/
def lawS5363ARawWrong : ChangeSpec := { name := "lawS5363ARaw", fn := fun _ => fun
  | [d1, d2] => { results := [.lit (.bool false)], args := [d1, d2] }
  | _ => none }
def LawS5363ARawWrongFalsely : Prop := lawS5363ARawRow.holds Yba.pinned (OpenSpec.ofChange lawS5363ARawWrong)

end Rows
end Go.Proofs.Ybulkdgau

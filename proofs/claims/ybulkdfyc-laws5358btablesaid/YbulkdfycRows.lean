/-
  No cell of these rows narrows 'for every input' (looked for: loops, veiled, ifaces, maps, wideKeys, modest, calm, conditions, laid).
  DERIVED. THE GIVEN ROWS OF THIS SEAT. 4 by the template 'for every input the law returns true; each argument reads behind the call as it read before'; 0 by the template 'total and deterministic' (their statements: YbulkdfycTotals.lean).
  GIVEN WITH THE SEED: the statements are not yours to turn. If you find one false, say at which input.
  Laid BY PROGRAM, IN A SANDBOX (cutbox-rows.mjs): the forced cells as the released guide's own fill.sh prints them over the translation 04e74df2e485fdf4… (all of the seat's roots in one cut). By AI agents, Wed Nov 11 2026. No macro, syntax, notation, axiom, sorry.
-/
import Derived.Test.YbulkdfycChecked
import GoSem.Claim
import GoSem.ClaimJoined
import GoSem.ClaimMapViews
import Derived.JoinedTies
import Derived.KernelRfl
namespace Go.Proofs.Ybulkdfyc
/- THE CELL 'sum', in the pinned program and in every row, IS THE sha256 OF THE DUMP (.gsa) THAT YbulkdfycProg.lean LOADS. Nothing in Lean hashes anything: it is a label: what it is worth is what the hold of that sum in a sandbox is worth. -/
noncomputable def Yba.pinned : Pinned := { name := "ybulkdfyc", sum := "04e74df2e485fdf48b65f4be4552229d9a7803701890fe172be0d036f05c2897", checked := Yba.checked }
namespace Rows
def none {H : Type} : Left H := { results := [], args := [] }

/-- 'slot.LawS5358BTable': WHATEVER THE INPUT: true; the input reads as it did. -/
def lawS5358BTableSpec : ChangeSpec := { name := "lawS5358BTable", fn := fun _ => fun
  | [d] => { results := [.lit (.bool true)], args := [d] }
  | _ => none }
def lawS5358BTableRow : OpenClaim := { program := "ybulkdfyc", sum := "04e74df2e485fdf48b65f4be4552229d9a7803701890fe172be0d036f05c2897", func := "example.com/slot/slot.LawS5358BTable", spec := "lawS5358BTable", apart := false }
def LawS5358BTableSaid : Prop := lawS5358BTableRow.holds Yba.pinned (OpenSpec.ofChange lawS5358BTableSpec)

/-- ITS FALSE NEIGHBOUR: 'it returns false'. Refute it at one input. -/
def lawS5358BTableWrong : ChangeSpec := { name := "lawS5358BTable", fn := fun _ => fun
  | [d] => { results := [.lit (.bool false)], args := [d] }
  | _ => none }
def LawS5358BTableWrongFalsely : Prop := lawS5358BTableRow.holds Yba.pinned (OpenSpec.ofChange lawS5358BTableWrong)

/-- 'slot.LawS5358BStarts': WHATEVER THE INPUT: true; the input reads as it did. -/
def lawS5358BStartsSpec : ChangeSpec := { name := "lawS5358BStarts", fn := fun _ => fun
  | [d] => { results := [.lit (.bool true)], args := [d] }
  | _ => none }
def lawS5358BStartsRow : OpenClaim := { program := "ybulkdfyc", sum := "04e74df2e485fdf48b65f4be4552229d9a7803701890fe172be0d036f05c2897", func := "example.com/slot/slot.LawS5358BStarts", spec := "lawS5358BStarts", apart := false }
def LawS5358BStartsSaid : Prop := lawS5358BStartsRow.holds Yba.pinned (OpenSpec.ofChange lawS5358BStartsSpec)

/-- ITS FALSE NEIGHBOUR: 'it returns false'. Refute it at one input. -/
def lawS5358BStartsWrong : ChangeSpec := { name := "lawS5358BStarts", fn := fun _ => fun
  | [d] => { results := [.lit (.bool false)], args := [d] }
  | _ => none }
def LawS5358BStartsWrongFalsely : Prop := lawS5358BStartsRow.holds Yba.pinned (OpenSpec.ofChange lawS5358BStartsWrong)

/-- 'slot.LawS5358CModel': WHATEVER THE INPUT: true; the input reads as it did. -/
def lawS5358CModelSpec : ChangeSpec := { name := "lawS5358CModel", fn := fun _ => fun
  | [d] => { results := [.lit (.bool true)], args := [d] }
  | _ => none }
def lawS5358CModelRow : OpenClaim := { program := "ybulkdfyc", sum := "04e74df2e485fdf48b65f4be4552229d9a7803701890fe172be0d036f05c2897", func := "example.com/slot/slot.LawS5358CModel", spec := "lawS5358CModel", apart := false }
def LawS5358CModelSaid : Prop := lawS5358CModelRow.holds Yba.pinned (OpenSpec.ofChange lawS5358CModelSpec)

/-- ITS FALSE NEIGHBOUR: 'it returns false'. Refute it at one input. -/
def lawS5358CModelWrong : ChangeSpec := { name := "lawS5358CModel", fn := fun _ => fun
  | [d] => { results := [.lit (.bool false)], args := [d] }
  | _ => none }
def LawS5358CModelWrongFalsely : Prop := lawS5358CModelRow.holds Yba.pinned (OpenSpec.ofChange lawS5358CModelWrong)

/-- 'slot.LawS5358CBuilt': WHATEVER THE INPUT: true; the input reads as it did. -/
def lawS5358CBuiltSpec : ChangeSpec := { name := "lawS5358CBuilt", fn := fun _ => fun
  | [d] => { results := [.lit (.bool true)], args := [d] }
  | _ => none }
def lawS5358CBuiltRow : OpenClaim := { program := "ybulkdfyc", sum := "04e74df2e485fdf48b65f4be4552229d9a7803701890fe172be0d036f05c2897", func := "example.com/slot/slot.LawS5358CBuilt", spec := "lawS5358CBuilt", inPlace := ["internal/abi.NoEscape"], apart := false }
def LawS5358CBuiltSaid : Prop := lawS5358CBuiltRow.holds Yba.pinned (OpenSpec.ofChange lawS5358CBuiltSpec)

/-- ITS FALSE NEIGHBOUR: 'it returns false'. Refute it at one input. -/
def lawS5358CBuiltWrong : ChangeSpec := { name := "lawS5358CBuilt", fn := fun _ => fun
  | [d] => { results := [.lit (.bool false)], args := [d] }
  | _ => none }
def LawS5358CBuiltWrongFalsely : Prop := lawS5358CBuiltRow.holds Yba.pinned (OpenSpec.ofChange lawS5358CBuiltWrong)

end Rows
end Go.Proofs.Ybulkdfyc

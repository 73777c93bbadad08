/-
  No cell of these rows narrows 'for every input' (looked for: loops, veiled, ifaces, maps, wideKeys, modest, calm, conditions, laid).
  DERIVED. THE GIVEN ROWS OF THIS SEAT. 4 by the template 'for every input the law returns true; each argument reads behind the call as it read before'; 0 by the template 'total and deterministic' (their statements: YbulkaaueTotals.lean).
  GIVEN WITH THE SEED: the statements are not yours to turn. If you find one false, say at which input.
  Laid BY PROGRAM, IN A SANDBOX (cutbox-rows.mjs): the forced cells as the released guide's own fill.sh prints them over the translation 38108368a94a6aa4… (all of the seat's roots in one cut). By AI agents, Wed Nov 11 2026. No macro, syntax, notation, axiom, sorry.
-/
import Derived.Test.YbulkaaueChecked
import GoSem.Claim
import GoSem.ClaimJoined
import GoSem.ClaimMapViews
import Derived.JoinedTies
import Derived.KernelRfl
namespace Go.Proofs.Ybulkaaue
/- THE CELL 'sum', in the pinned program and in every row, IS THE sha256 OF THE DUMP (.gsa) THAT YbulkaaueProg.lean LOADS. Nothing in Lean hashes anything: it is a label: what it is worth is what the hold of that sum in a sandbox is worth. -/
noncomputable def Yba.pinned : Pinned := { name := "ybulkaaue", sum := "38108368a94a6aa415accc320f2a41e5e0f30b9ecf1ab6e05ae07cc5d5a69080", checked := Yba.checked }
namespace Rows
def none {H : Type} : Left H := { results := [], args := [] }

/-- 'stall-to-cancel.LawS1343AExact': WHATEVER THE INPUT: true; the input reads as it did. -/
def lawS1343AExactSpec : ChangeSpec := { name := "lawS1343AExact", fn := fun _ => fun
  | [d1, d2, d3, d4, d5, d6] => { results := [.lit (.bool true)], args := [d1, d2, d3, d4, d5, d6] }
  | _ => none }
def lawS1343AExactRow : OpenClaim := { program := "ybulkaaue", sum := "38108368a94a6aa415accc320f2a41e5e0f30b9ecf1ab6e05ae07cc5d5a69080", func := "example.com/stall-to-cancel/stall-to-cancel.LawS1343AExact", spec := "lawS1343AExact", apart := false }
def LawS1343AExactSaid : Prop := lawS1343AExactRow.holds Yba.pinned (OpenSpec.ofChange lawS1343AExactSpec)

/-- ITS FALSE NEIGHBOUR: 'it returns false'. Refute it at one input. -/
def lawS1343AExactWrong : ChangeSpec := { name := "lawS1343AExact", fn := fun _ => fun
  | [d1, d2, d3, d4, d5, d6] => { results := [.lit (.bool false)], args := [d1, d2, d3, d4, d5, d6] }
  | _ => none }
def LawS1343AExactWrongFalsely : Prop := lawS1343AExactRow.holds Yba.pinned (OpenSpec.ofChange lawS1343AExactWrong)

/-- 'stall-to-cancel.LawS1343ABounds': WHATEVER THE INPUT: true; the input reads as it did. -/
def lawS1343ABoundsSpec : ChangeSpec := { name := "lawS1343ABounds", fn := fun _ => fun
  | [d1, d2, d3, d4, d5] => { results := [.lit (.bool true)], args := [d1, d2, d3, d4, d5] }
  | _ => none }
def lawS1343ABoundsRow : OpenClaim := { program := "ybulkaaue", sum := "38108368a94a6aa415accc320f2a41e5e0f30b9ecf1ab6e05ae07cc5d5a69080", func := "example.com/stall-to-cancel/stall-to-cancel.LawS1343ABounds", spec := "lawS1343ABounds", apart := false }
def LawS1343ABoundsSaid : Prop := lawS1343ABoundsRow.holds Yba.pinned (OpenSpec.ofChange lawS1343ABoundsSpec)

/-- ITS FALSE NEIGHBOUR: 'it returns false'. Refute it at one input. -/
def lawS1343ABoundsWrong : ChangeSpec := { name := "lawS1343ABounds", fn := fun _ => fun
  | [d1, d2, d3, d4, d5] => { results := [.lit (.bool false)], args := [d1, d2, d3, d4, d5] }
  | _ => none }
def LawS1343ABoundsWrongFalsely : Prop := lawS1343ABoundsRow.holds Yba.pinned (OpenSpec.ofChange lawS1343ABoundsWrong)

/-- 'stall-to-cancel.LawS1343BTable': WHATEVER THE INPUT: true; the input reads as it did. -/
def lawS1343BTableSpec : ChangeSpec := { name := "lawS1343BTable", fn := fun _ => fun
  | [d1, d2] => { results := [.lit (.bool true)], args := [d1, d2] }
  | _ => none }
def lawS1343BTableRow : OpenClaim := { program := "ybulkaaue", sum := "38108368a94a6aa415accc320f2a41e5e0f30b9ecf1ab6e05ae07cc5d5a69080", func := "example.com/stall-to-cancel/stall-to-cancel.LawS1343BTable", spec := "lawS1343BTable", apart := false }
def LawS1343BTableSaid : Prop := lawS1343BTableRow.holds Yba.pinned (OpenSpec.ofChange lawS1343BTableSpec)

/-- ITS FALSE NEIGHBOUR: 'it returns false'. Refute it at one input. -/
def lawS1343BTableWrong : ChangeSpec := { name := "lawS1343BTable", fn := fun _ => fun
  | [d1, d2] => { results := [.lit (.bool false)], args := [d1, d2] }
  | _ => none }
def LawS1343BTableWrongFalsely : Prop := lawS1343BTableRow.holds Yba.pinned (OpenSpec.ofChange lawS1343BTableWrong)

/-- 'stall-to-cancel.LawS1343BSibling': WHATEVER THE INPUT: true; the input reads as it did. -/
def lawS1343BSiblingSpec : ChangeSpec := { name := "lawS1343BSibling", fn := fun _ => fun
  | [d1, d2] => { results := [.lit (.bool true)], args := [d1, d2] }
  | _ => none }
def lawS1343BSiblingRow : OpenClaim := { program := "ybulkaaue", sum := "38108368a94a6aa415accc320f2a41e5e0f30b9ecf1ab6e05ae07cc5d5a69080", func := "example.com/stall-to-cancel/stall-to-cancel.LawS1343BSibling", spec := "lawS1343BSibling", apart := false }
def LawS1343BSiblingSaid : Prop := lawS1343BSiblingRow.holds Yba.pinned (OpenSpec.ofChange lawS1343BSiblingSpec)

/-- ITS FALSE NEIGHBOUR: 'it returns false'. Refute it at one input. -/
def lawS1343BSiblingWrong : ChangeSpec := { name := "lawS1343BSibling", fn := fun _ => fun
  | [d1, d2] => { results := [.lit (.bool false)], args := [d1, d2] }
  | _ => none }
def LawS1343BSiblingWrongFalsely : Prop := lawS1343BSiblingRow.holds Yba.pinned (OpenSpec.ofChange lawS1343BSiblingWrong)

end Rows
end Go.Proofs.Ybulkaaue

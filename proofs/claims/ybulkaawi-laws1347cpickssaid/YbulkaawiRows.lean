/-
  No cell of these rows narrows 'for every input' (looked for: loops, veiled, ifaces, maps, wideKeys, modest, calm, conditions, laid).
  DERIVED. THE GIVEN ROWS OF THIS SEAT. 2 by the template 'for every input the law returns true; each argument reads behind the call as it read before'; 0 by the template 'total and deterministic' (their statements: YbulkaawiTotals.lean).
  GIVEN WITH THE SEED: the statements are not yours to turn. If you find one false, say at which input.
  Laid BY PROGRAM, IN A SANDBOX (cutbox-rows.mjs): the forced cells as the released guide's own fill.sh prints them over the translation a5e1e435c44696ff… (all of the seat's roots in one cut). By AI agents, Wed Nov 11 2026. No macro, syntax, notation, axiom, sorry.
-/
import Derived.Test.YbulkaawiChecked
import GoSem.Claim
import GoSem.ClaimJoined
import GoSem.ClaimMapViews
import Derived.JoinedTies
import Derived.KernelRfl
namespace Go.Proofs.Ybulkaawi
/- THE CELL 'sum', in the pinned program and in every row, IS THE sha256 OF THE DUMP (.gsa) THAT YbulkaawiProg.lean LOADS. Nothing in Lean hashes anything: it is a label: what it is worth is what the hold of that sum in a sandbox is worth. -/
noncomputable def Yba.pinned : Pinned := { name := "ybulkaawi", sum := "a5e1e435c44696ffb190b938fddd28585efca026f4571785cc43799b95bcd9a1", checked := Yba.checked }
namespace Rows
def none {H : Type} : Left H := { results := [], args := [] }

/-- 'cell.LawS1347BLeaf': WHATEVER THE INPUT: true; the input reads as it did. -/
def lawS1347BLeafSpec : ChangeSpec := { name := "lawS1347BLeaf", fn := fun _ => fun
  | [d1, d2, d3, d4] => { results := [.lit (.bool true)], args := [d1, d2, d3, d4] }
  | _ => none }
def lawS1347BLeafRow : OpenClaim := { program := "ybulkaawi", sum := "a5e1e435c44696ffb190b938fddd28585efca026f4571785cc43799b95bcd9a1", func := "example.com/quartermaster/quartermaster/internal/cell.LawS1347BLeaf", spec := "lawS1347BLeaf", plainKeys := false, apart := false }
def LawS1347BLeafSaid : Prop := lawS1347BLeafRow.holds Yba.pinned (OpenSpec.ofChange lawS1347BLeafSpec)

/-- ITS FALSE NEIGHBOUR: 'it returns false'. Refute it at one input. -/
def lawS1347BLeafWrong : ChangeSpec := { name := "lawS1347BLeaf", fn := fun _ => fun
  | [d1, d2, d3, d4] => { results := [.lit (.bool false)], args := [d1, d2, d3, d4] }
  | _ => none }
def LawS1347BLeafWrongFalsely : Prop := lawS1347BLeafRow.holds Yba.pinned (OpenSpec.ofChange lawS1347BLeafWrong)

/-- 'firstfit.LawS1347CPicks': WHATEVER THE INPUT: true; the input reads as it did. -/
def lawS1347CPicksSpec : ChangeSpec := { name := "lawS1347CPicks", fn := fun _ => fun
  | [d1, d2, d3] => { results := [.lit (.bool true)], args := [d1, d2, d3] }
  | _ => none }
def lawS1347CPicksRow : OpenClaim := { program := "ybulkaawi", sum := "a5e1e435c44696ffb190b938fddd28585efca026f4571785cc43799b95bcd9a1", func := "example.com/quartermaster/quartermaster/internal/firstfit.LawS1347CPicks", spec := "lawS1347CPicks", unfollowed := true, recurses := true, plainKeys := false, apart := false }
def LawS1347CPicksSaid : Prop := lawS1347CPicksRow.holds Yba.pinned (OpenSpec.ofChange lawS1347CPicksSpec)

/-- ITS FALSE NEIGHBOUR: 'it returns false'. Refute it at one input. -/
def lawS1347CPicksWrong : ChangeSpec := { name := "lawS1347CPicks", fn := fun _ => fun
  | [d1, d2, d3] => { results := [.lit (.bool false)], args := [d1, d2, d3] }
  | _ => none }
def LawS1347CPicksWrongFalsely : Prop := lawS1347CPicksRow.holds Yba.pinned (OpenSpec.ofChange lawS1347CPicksWrong)

end Rows
end Go.Proofs.Ybulkaawi

/-
  No cell of these rows narrows 'for every input' (looked for: loops, veiled, ifaces, maps, wideKeys, modest, calm, conditions, laid).
  DERIVED. THE GIVEN ROWS OF THIS SEAT. 1 by the template 'for every input the law returns true; each argument reads behind the call as it read before'; 0 by the template 'total and deterministic' (their statements: YbulkaausTotals.lean).
  GIVEN WITH THE SEED: the statements are not yours to turn. If you find one false, say at which input.
  Laid BY PROGRAM, IN A SANDBOX (cutbox-rows.mjs): the forced cells as the released guide's own fill.sh prints them over the translation b1940c1db5264e6d… (all of the seat's roots in one cut). By AI agents, Wed Nov 11 2026. No macro, syntax, notation, axiom, sorry.
-/
import Derived.Test.YbulkaausChecked
import GoSem.Claim
import GoSem.ClaimJoined
import GoSem.ClaimMapViews
import Derived.JoinedTies
import Derived.KernelRfl
namespace Go.Proofs.Ybulkaaus
/- THE CELL 'sum', in the pinned program and in every row, IS THE sha256 OF THE DUMP (.gsa) THAT YbulkaausProg.lean LOADS. Nothing in Lean hashes anything: it is a label: what it is worth is what the hold of that sum in a sandbox is worth. -/
noncomputable def Yba.pinned : Pinned := { name := "ybulkaaus", sum := "b1940c1db5264e6d976939aaf9e7a799bcf91b0b50d7dfbac4fd853053e1c451", checked := Yba.checked }
namespace Rows
def none {H : Type} : Left H := { results := [], args := [] }

/-- 'trie.LawS1344AParts': WHATEVER THE INPUT: true; the input reads as it did. -/
def lawS1344APartsSpec : ChangeSpec := { name := "lawS1344AParts", fn := fun _ => fun
  | [d1, d2, d3, d4, d5, d6, d7, d8] => { results := [.lit (.bool true)], args := [d1, d2, d3, d4, d5, d6, d7, d8] }
  | _ => none }
def lawS1344APartsRow : OpenClaim := { program := "ybulkaaus", sum := "b1940c1db5264e6d976939aaf9e7a799bcf91b0b50d7dfbac4fd853053e1c451", func := "example.com/dotwalk/dotwalk/internal/trie.LawS1344AParts", spec := "lawS1344AParts", inPlace := ["sync/atomic.StorePointer", "sync/atomic.LoadPointer"], recurses := true, apart := false }
def LawS1344APartsSaid : Prop := lawS1344APartsRow.holds Yba.pinned (OpenSpec.ofChange lawS1344APartsSpec)

/-- ITS FALSE NEIGHBOUR: 'it returns false'. Refute it at one input. -/
def lawS1344APartsWrong : ChangeSpec := { name := "lawS1344AParts", fn := fun _ => fun
  | [d1, d2, d3, d4, d5, d6, d7, d8] => { results := [.lit (.bool false)], args := [d1, d2, d3, d4, d5, d6, d7, d8] }
  | _ => none }
def LawS1344APartsWrongFalsely : Prop := lawS1344APartsRow.holds Yba.pinned (OpenSpec.ofChange lawS1344APartsWrong)

end Rows
end Go.Proofs.Ybulkaaus

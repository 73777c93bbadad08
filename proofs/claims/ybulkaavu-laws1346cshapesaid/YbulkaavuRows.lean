/-
  No cell of these rows narrows 'for every input' (looked for: loops, veiled, ifaces, maps, wideKeys, modest, calm, conditions, laid).
  DERIVED. THE GIVEN ROWS OF THIS SEAT. 2 by the template 'for every input the law returns true; each argument reads behind the call as it read before'; 0 by the template 'total and deterministic' (their statements: YbulkaavuTotals.lean).
  GIVEN WITH THE SEED: the statements are not yours to turn. If you find one false, say at which input.
  Laid BY PROGRAM, IN A SANDBOX (cutbox-rows.mjs): the forced cells as the released guide's own fill.sh prints them over the translation 9e4469c12cb962d7… (all of the seat's roots in one cut). By AI agents, Wed Nov 11 2026. No macro, syntax, notation, axiom, sorry.
-/
import Derived.Test.YbulkaavuChecked
import GoSem.Claim
import GoSem.ClaimJoined
import GoSem.ClaimMapViews
import Derived.JoinedTies
import Derived.KernelRfl
namespace Go.Proofs.Ybulkaavu
/- THE CELL 'sum', in the pinned program and in every row, IS THE sha256 OF THE DUMP (.gsa) THAT YbulkaavuProg.lean LOADS. Nothing in Lean hashes anything: it is a label: what it is worth is what the hold of that sum in a sandbox is worth. -/
noncomputable def Yba.pinned : Pinned := { name := "ybulkaavu", sum := "9e4469c12cb962d7a55cf11e0f71ea3f973f10ec04911f0917606b4ab3f59b54", checked := Yba.checked }
namespace Rows
def none {H : Type} : Left H := { results := [], args := [] }

/-- 'tidewatch.LawS1346CShape': WHATEVER THE INPUT: true; the input reads as it did. -/
def lawS1346CShapeSpec : ChangeSpec := { name := "lawS1346CShape", fn := fun _ => fun
  | [d1, d2] => { results := [.lit (.bool true)], args := [d1, d2] }
  | _ => none }
def lawS1346CShapeRow : OpenClaim := { program := "ybulkaavu", sum := "9e4469c12cb962d7a55cf11e0f71ea3f973f10ec04911f0917606b4ab3f59b54", func := "example.com/tidewatch/tidewatch.LawS1346CShape", spec := "lawS1346CShape", apart := false }
def LawS1346CShapeSaid : Prop := lawS1346CShapeRow.holds Yba.pinned (OpenSpec.ofChange lawS1346CShapeSpec)

/-- ITS FALSE NEIGHBOUR: 'it returns false'. Refute it at one input. -/
def lawS1346CShapeWrong : ChangeSpec := { name := "lawS1346CShape", fn := fun _ => fun
  | [d1, d2] => { results := [.lit (.bool false)], args := [d1, d2] }
  | _ => none }
def LawS1346CShapeWrongFalsely : Prop := lawS1346CShapeRow.holds Yba.pinned (OpenSpec.ofChange lawS1346CShapeWrong)

/-- 'tidewatch.LawS1346CMonotone': WHATEVER THE INPUT: true; the input reads as it did. -/
def lawS1346CMonotoneSpec : ChangeSpec := { name := "lawS1346CMonotone", fn := fun _ => fun
  | [d1, d2, d3] => { results := [.lit (.bool true)], args := [d1, d2, d3] }
  | _ => none }
def lawS1346CMonotoneRow : OpenClaim := { program := "ybulkaavu", sum := "9e4469c12cb962d7a55cf11e0f71ea3f973f10ec04911f0917606b4ab3f59b54", func := "example.com/tidewatch/tidewatch.LawS1346CMonotone", spec := "lawS1346CMonotone", apart := false }
def LawS1346CMonotoneSaid : Prop := lawS1346CMonotoneRow.holds Yba.pinned (OpenSpec.ofChange lawS1346CMonotoneSpec)

/-- ITS FALSE NEIGHBOUR: 'it returns false'. Refute it at one input. -/
def lawS1346CMonotoneWrong : ChangeSpec := { name := "lawS1346CMonotone", fn := fun _ => fun
  | [d1, d2, d3] => { results := [.lit (.bool false)], args := [d1, d2, d3] }
  | _ => none }
def LawS1346CMonotoneWrongFalsely : Prop := lawS1346CMonotoneRow.holds Yba.pinned (OpenSpec.ofChange lawS1346CMonotoneWrong)

end Rows
end Go.Proofs.Ybulkaavu

/-
  No cell of these rows narrows 'for every input' (looked for: loops, veiled, ifaces, maps, wideKeys, modest, calm, conditions, laid).
  DERIVED. THE GIVEN ROWS OF THIS SEAT. 2 by the template 'for every input the law returns true; each argument reads behind the call as it read before'; 0 by the template 'total and deterministic' (their statements: YbulkgywTotals.lean).
  GIVEN WITH THE SEED: the statements are not yours to turn. If you find one false, say at which input.
  Laid BY PROGRAM, IN A SANDBOX (cutbox-rows.mjs): the forced cells as the released guide's own fill.sh prints them over the translation 5b7fadf5e9a82899… (all of the seat's roots in one cut). By AI agents, Wed Nov 11 2026. No macro, syntax, notation, axiom, sorry.
-/
import Derived.Test.YbulkgywChecked
import GoSem.Claim
import GoSem.ClaimJoined
import GoSem.ClaimMapViews
import Derived.JoinedTies
import Derived.KernelRfl
namespace Go.Proofs.Ybulkgyw
/- THE CELL 'sum', in the pinned program and in every row, IS THE sha256 OF THE DUMP (.gsa) THAT YbulkgywProg.lean LOADS. Nothing in Lean hashes anything: it is a label: what it is worth is what the hold of that sum in a sandbox is worth. -/
noncomputable def Yba.pinned : Pinned := { name := "ybulkgyw", sum := "5b7fadf5e9a82899e8d6aecd7f6f43b8cfe176e968717b259b21d7d4ba2cc6af", checked := Yba.checked }
namespace Rows
def none {H : Type} : Left H := { results := [], args := [] }

/-- 'pointsluice.LawS0386AShift': WHATEVER THE INPUT: true; the input reads as it did. -/
def lawS0386AShiftSpec : ChangeSpec := { name := "lawS0386AShift", fn := fun _ => fun
  | [d1, d2, d3, d4] => { results := [.lit (.bool true)], args := [d1, d2, d3, d4] }
  | _ => none }
def lawS0386AShiftRow : OpenClaim := { program := "ybulkgyw", sum := "5b7fadf5e9a82899e8d6aecd7f6f43b8cfe176e968717b259b21d7d4ba2cc6af", func := "example.com/pointsluice/pointsluice.LawS0386AShift", spec := "lawS0386AShift", inPlace := ["math.Float64bits"], apart := false }
def LawS0386AShiftSaid : Prop := lawS0386AShiftRow.holds Yba.pinned (OpenSpec.ofChange lawS0386AShiftSpec)

/-- ITS FALSE NEIGHBOUR: 'it returns false'. Refute it at one input. -/
def lawS0386AShiftWrong : ChangeSpec := { name := "lawS0386AShift", fn := fun _ => fun
  | [d1, d2, d3, d4] => { results := [.lit (.bool false)], args := [d1, d2, d3, d4] }
  | _ => none }
def LawS0386AShiftWrongFalsely : Prop := lawS0386AShiftRow.holds Yba.pinned (OpenSpec.ofChange lawS0386AShiftWrong)

/-- 'pointsluice.LawS0386AKeeps': WHATEVER THE INPUT: true; the input reads as it did. -/
def lawS0386AKeepsSpec : ChangeSpec := { name := "lawS0386AKeeps", fn := fun _ => fun
  | [d1, d2, d3, d4, d5, d6, d7, d8, d9, d10, d11] => { results := [.lit (.bool true)], args := [d1, d2, d3, d4, d5, d6, d7, d8, d9, d10, d11] }
  | _ => none }
def lawS0386AKeepsRow : OpenClaim := { program := "ybulkgyw", sum := "5b7fadf5e9a82899e8d6aecd7f6f43b8cfe176e968717b259b21d7d4ba2cc6af", func := "example.com/pointsluice/pointsluice.LawS0386AKeeps", spec := "lawS0386AKeeps", inPlace := ["math.Float64bits"], apart := false }
def LawS0386AKeepsSaid : Prop := lawS0386AKeepsRow.holds Yba.pinned (OpenSpec.ofChange lawS0386AKeepsSpec)

/-- ITS FALSE NEIGHBOUR: 'it returns false'. Refute it at one input. -/
def lawS0386AKeepsWrong : ChangeSpec := { name := "lawS0386AKeeps", fn := fun _ => fun
  | [d1, d2, d3, d4, d5, d6, d7, d8, d9, d10, d11] => { results := [.lit (.bool false)], args := [d1, d2, d3, d4, d5, d6, d7, d8, d9, d10, d11] }
  | _ => none }
def LawS0386AKeepsWrongFalsely : Prop := lawS0386AKeepsRow.holds Yba.pinned (OpenSpec.ofChange lawS0386AKeepsWrong)

end Rows
end Go.Proofs.Ybulkgyw

/-
  No cell of these rows narrows 'for every input' (looked for: loops, veiled, ifaces, maps, wideKeys, modest, calm, conditions, laid).
  DERIVED. THE GIVEN ROWS OF THIS SEAT. 2 by the template 'for every input the law returns true; each argument reads behind the call as it read before'; 0 by the template 'total and deterministic' (their statements: YbulkgxgTotals.lean).
  GIVEN WITH THE SEED: the statements are not yours to turn. If you find one false, say at which input.
  Laid BY PROGRAM, IN A SANDBOX (cutbox-rows.mjs): the forced cells as the released guide's own fill.sh prints them over the translation d7f69dfc2fb6217c… (all of the seat's roots in one cut). By AI agents, Wed Nov 11 2026. No macro, syntax, notation, axiom, sorry.
-/
import Derived.Test.YbulkgxgChecked
import GoSem.Claim
import GoSem.ClaimJoined
import GoSem.ClaimMapViews
import Derived.JoinedTies
import Derived.KernelRfl
namespace Go.Proofs.Ybulkgxg
/- THE CELL 'sum', in the pinned program and in every row, IS THE sha256 OF THE DUMP (.gsa) THAT YbulkgxgProg.lean LOADS. Nothing in Lean hashes anything: it is a label: what it is worth is what the hold of that sum in a sandbox is worth. -/
noncomputable def Yba.pinned : Pinned := { name := "ybulkgxg", sum := "d7f69dfc2fb6217c33a194bf3120efe318b58549e5ecb0014e60ae17428c4e76", checked := Yba.checked }
namespace Rows
def none {H : Type} : Left H := { results := [], args := [] }

/-- 'resolve.LawS0383AItems': WHATEVER THE INPUT: true; the input reads as it did. -/
def lawS0383AItemsSpec : ChangeSpec := { name := "lawS0383AItems", fn := fun _ => fun
  | [d] => { results := [.lit (.bool true)], args := [d] }
  | _ => none }
def lawS0383AItemsRow : OpenClaim := { program := "ybulkgxg", sum := "d7f69dfc2fb6217c33a194bf3120efe318b58549e5ecb0014e60ae17428c4e76", func := "example.com/kindred/kindred/resolve.LawS0383AItems", spec := "lawS0383AItems", apart := false }
def LawS0383AItemsSaid : Prop := lawS0383AItemsRow.holds Yba.pinned (OpenSpec.ofChange lawS0383AItemsSpec)

/-- ITS FALSE NEIGHBOUR: 'it returns false'. Refute it at one input. -/
def lawS0383AItemsWrong : ChangeSpec := { name := "lawS0383AItems", fn := fun _ => fun
  | [d] => { results := [.lit (.bool false)], args := [d] }
  | _ => none }
def LawS0383AItemsWrongFalsely : Prop := lawS0383AItemsRow.holds Yba.pinned (OpenSpec.ofChange lawS0383AItemsWrong)

/-- 'resolve.LawS0383ANonNil': WHATEVER THE INPUT: true; the input reads as it did. -/
def lawS0383ANonNilSpec : ChangeSpec := { name := "lawS0383ANonNil", fn := fun _ => fun
  | [d1, d2, d3] => { results := [.lit (.bool true)], args := [d1, d2, d3] }
  | _ => none }
def lawS0383ANonNilRow : OpenClaim := { program := "ybulkgxg", sum := "d7f69dfc2fb6217c33a194bf3120efe318b58549e5ecb0014e60ae17428c4e76", func := "example.com/kindred/kindred/resolve.LawS0383ANonNil", spec := "lawS0383ANonNil", apart := false }
def LawS0383ANonNilSaid : Prop := lawS0383ANonNilRow.holds Yba.pinned (OpenSpec.ofChange lawS0383ANonNilSpec)

/-- ITS FALSE NEIGHBOUR: 'it returns false'. Refute it at one input. -/
def lawS0383ANonNilWrong : ChangeSpec := { name := "lawS0383ANonNil", fn := fun _ => fun
  | [d1, d2, d3] => { results := [.lit (.bool false)], args := [d1, d2, d3] }
  | _ => none }
def LawS0383ANonNilWrongFalsely : Prop := lawS0383ANonNilRow.holds Yba.pinned (OpenSpec.ofChange lawS0383ANonNilWrong)

end Rows
end Go.Proofs.Ybulkgxg

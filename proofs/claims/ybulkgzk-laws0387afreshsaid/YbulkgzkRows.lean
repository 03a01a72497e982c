/-
  No cell of these rows narrows 'for every input' (looked for: loops, veiled, ifaces, maps, wideKeys, modest, calm, conditions, laid).
  DERIVED. THE GIVEN ROWS OF THIS SEAT. 3 by the template 'for every input the law returns true; each argument reads behind the call as it read before'; 0 by the template 'total and deterministic' (their statements: YbulkgzkTotals.lean).
  GIVEN WITH THE SEED: the statements are not yours to turn. If you find one false, say at which input.
  Laid BY PROGRAM, IN A SANDBOX (cutbox-rows.mjs): the forced cells as the released guide's own fill.sh prints them over the translation 79c17aeecf01ad56… (all of the seat's roots in one cut). By AI agents, Wed Nov 11 2026. No macro, syntax, notation, axiom, sorry.
-/
import Derived.Test.YbulkgzkChecked
import GoSem.Claim
import GoSem.ClaimJoined
import GoSem.ClaimMapViews
import Derived.JoinedTies
import Derived.KernelRfl
namespace Go.Proofs.Ybulkgzk
/- THE CELL 'sum', in the pinned program and in every row, IS THE sha256 OF THE DUMP (.gsa) THAT YbulkgzkProg.lean LOADS. Nothing in Lean hashes anything: it is a label: what it is worth is what the hold of that sum in a sandbox is worth. -/
noncomputable def Yba.pinned : Pinned := { name := "ybulkgzk", sum := "79c17aeecf01ad56cd5f11d8832478a0ddeac7ee95908e1e9d625984057491f7", checked := Yba.checked }
namespace Rows
def none {H : Type} : Left H := { results := [], args := [] }

/-- 'nbd.LawS0387AFresh': WHATEVER THE INPUT: true; the input reads as it did. -/
def lawS0387AFreshSpec : ChangeSpec := { name := "lawS0387AFresh", fn := fun _ => fun
  | [d1, d2, d3, d4, d5] => { results := [.lit (.bool true)], args := [d1, d2, d3, d4, d5] }
  | _ => none }
def lawS0387AFreshRow : OpenClaim := { program := "ybulkgzk", sum := "79c17aeecf01ad56cd5f11d8832478a0ddeac7ee95908e1e9d625984057491f7", func := "example.com/stratigraph/stratigraph/nbd.LawS0387AFresh", spec := "lawS0387AFresh", inPlace := ["(*internal/sync.Mutex).Lock", "internal/race.Disable", "sync/atomic.CompareAndSwapInt32", "internal/race.Enable", "internal/race.Acquire", "(*internal/sync.Mutex).lockSlow", "internal/sync.runtime_canSpin", "internal/sync.runtime_doSpin", "internal/sync.throw", "internal/sync.runtime_nanotime", "internal/sync.runtime_SemacquireMutex", "sync/atomic.AddInt32", "(*internal/sync.Mutex).Unlock", "internal/race.ReleaseMerge", "(*internal/sync.Mutex).unlockSlow", "internal/sync.fatal", "internal/sync.runtime_Semrelease", "(*sync.Cond).Signal", "(*sync.copyChecker).check", "sync.runtime_notifyListNotifyOne", "(*sync.Cond).Wait", "sync.runtime_notifyListAdd", "internal/race.Read", "sync.runtime_notifyListWait"], unfollowed := true, recurses := true, apart := false }
def LawS0387AFreshSaid : Prop := lawS0387AFreshRow.holds Yba.pinned (OpenSpec.ofChange lawS0387AFreshSpec)

/-- ITS FALSE NEIGHBOUR: 'it returns false'. Refute it at one input. -/
def lawS0387AFreshWrong : ChangeSpec := { name := "lawS0387AFresh", fn := fun _ => fun
  | [d1, d2, d3, d4, d5] => { results := [.lit (.bool false)], args := [d1, d2, d3, d4, d5] }
  | _ => none }
def LawS0387AFreshWrongFalsely : Prop := lawS0387AFreshRow.holds Yba.pinned (OpenSpec.ofChange lawS0387AFreshWrong)

/-- 'nbd.LawS0387AAgain': WHATEVER THE INPUT: true; the input reads as it did. -/
def lawS0387AAgainSpec : ChangeSpec := { name := "lawS0387AAgain", fn := fun _ => fun
  | [d1, d2, d3, d4, d5, d6] => { results := [.lit (.bool true)], args := [d1, d2, d3, d4, d5, d6] }
  | _ => none }
def lawS0387AAgainRow : OpenClaim := { program := "ybulkgzk", sum := "79c17aeecf01ad56cd5f11d8832478a0ddeac7ee95908e1e9d625984057491f7", func := "example.com/stratigraph/stratigraph/nbd.LawS0387AAgain", spec := "lawS0387AAgain", inPlace := ["(*internal/sync.Mutex).Lock", "internal/race.Disable", "sync/atomic.CompareAndSwapInt32", "internal/race.Enable", "internal/race.Acquire", "(*internal/sync.Mutex).lockSlow", "internal/sync.runtime_canSpin", "internal/sync.runtime_doSpin", "internal/sync.throw", "internal/sync.runtime_nanotime", "internal/sync.runtime_SemacquireMutex", "sync/atomic.AddInt32", "(*internal/sync.Mutex).Unlock", "internal/race.ReleaseMerge", "(*internal/sync.Mutex).unlockSlow", "internal/sync.fatal", "internal/sync.runtime_Semrelease", "(*sync.Cond).Signal", "(*sync.copyChecker).check", "sync.runtime_notifyListNotifyOne", "(*sync.Cond).Wait", "sync.runtime_notifyListAdd", "internal/race.Read", "sync.runtime_notifyListWait"], unfollowed := true, recurses := true, apart := false }
def LawS0387AAgainSaid : Prop := lawS0387AAgainRow.holds Yba.pinned (OpenSpec.ofChange lawS0387AAgainSpec)

/-- ITS FALSE NEIGHBOUR: 'it returns false'. Refute it at one input. -/
def lawS0387AAgainWrong : ChangeSpec := { name := "lawS0387AAgain", fn := fun _ => fun
  | [d1, d2, d3, d4, d5, d6] => { results := [.lit (.bool false)], args := [d1, d2, d3, d4, d5, d6] }
  | _ => none }
def LawS0387AAgainWrongFalsely : Prop := lawS0387AAgainRow.holds Yba.pinned (OpenSpec.ofChange lawS0387AAgainWrong)

/-- 'rafsv5.LawS0387BPlaces': WHATEVER THE INPUT: true; the input reads as it did. -/
def lawS0387BPlacesSpec : ChangeSpec := { name := "lawS0387BPlaces", fn := fun _ => fun
  | [d1, d2, d3, d4] => { results := [.lit (.bool true)], args := [d1, d2, d3, d4] }
  | _ => none }
def lawS0387BPlacesRow : OpenClaim := { program := "ybulkgzk", sum := "79c17aeecf01ad56cd5f11d8832478a0ddeac7ee95908e1e9d625984057491f7", func := "example.com/stratigraph/stratigraph/rafsv5.LawS0387BPlaces", spec := "lawS0387BPlaces", inPlace := ["internal/bytealg.abigen_runtime_cmpstring"], unfollowed := true, recurses := true, apart := false }
def LawS0387BPlacesSaid : Prop := lawS0387BPlacesRow.holds Yba.pinned (OpenSpec.ofChange lawS0387BPlacesSpec)

/-- ITS FALSE NEIGHBOUR: 'it returns false'. Refute it at one input. -/
def lawS0387BPlacesWrong : ChangeSpec := { name := "lawS0387BPlaces", fn := fun _ => fun
  | [d1, d2, d3, d4] => { results := [.lit (.bool false)], args := [d1, d2, d3, d4] }
  | _ => none }
def LawS0387BPlacesWrongFalsely : Prop := lawS0387BPlacesRow.holds Yba.pinned (OpenSpec.ofChange lawS0387BPlacesWrong)

end Rows
end Go.Proofs.Ybulkgzk

/-
  No cell of these rows narrows 'for every input' (looked for: loops, veiled, ifaces, maps, wideKeys, modest, calm, conditions, laid).
  DERIVED. THE GIVEN ROWS OF THIS SEAT. 3 by the template 'for every input the law returns true; each argument reads behind the call as it read before'; 0 by the template 'total and deterministic' (their statements: YbulkcteyTotals.lean).
  GIVEN WITH THE SEED: the statements are not yours to turn. If you find one false, say at which input.
  Laid BY PROGRAM, IN A SANDBOX (cutbox-rows.mjs): the forced cells as the released guide's own fill.sh prints them over the translation 7fb15a8581d40b5e… (all of the seat's roots in one cut). By AI agents, Wed Nov 11 2026. No macro, syntax, notation, axiom, sorry.
-/
import Derived.Test.YbulkcteyChecked
import GoSem.Claim
import GoSem.ClaimJoined
import GoSem.ClaimMapViews
import Derived.JoinedTies
import Derived.KernelRfl
namespace Go.Proofs.Ybulkctey
/- THE CELL 'sum', in the pinned program and in every row, IS THE sha256 OF THE DUMP (.gsa) THAT YbulkcteyProg.lean LOADS. Nothing in Lean hashes anything: it is a label: what it is worth is what the hold of that sum in a sandbox is worth. -/
noncomputable def Yba.pinned : Pinned := { name := "ybulkctey", sum := "7fb15a8581d40b5edc1b88982c14c17619a9eb838710b28d5089932eb1ac9909", checked := Yba.checked }
namespace Rows
def none {H : Type} : Left H := { results := [], args := [] }

/-- 'libsteal.LawS4743AState': WHATEVER THE INPUT: true; the input reads as it did. -/
def lawS4743AStateSpec : ChangeSpec := { name := "lawS4743AState", fn := fun _ => fun
  | [d1, d2, d3, d4, d5] => { results := [.lit (.bool true)], args := [d1, d2, d3, d4, d5] }
  | _ => none }
def lawS4743AStateRow : OpenClaim := { program := "ybulkctey", sum := "7fb15a8581d40b5edc1b88982c14c17619a9eb838710b28d5089932eb1ac9909", func := "example.com/libsteal/libsteal.LawS4743AState", spec := "lawS4743AState", inPlace := ["sync/atomic.StoreUint64", "sync/atomic.LoadUint64", "sync/atomic.CompareAndSwapUint64"], apart := false }
def LawS4743AStateSaid : Prop := lawS4743AStateRow.holds Yba.pinned (OpenSpec.ofChange lawS4743AStateSpec)

/-- ITS FALSE NEIGHBOUR: 'it returns false'. Refute it at one input. -/
def lawS4743AStateWrong : ChangeSpec := { name := "lawS4743AState", fn := fun _ => fun
  | [d1, d2, d3, d4, d5] => { results := [.lit (.bool false)], args := [d1, d2, d3, d4, d5] }
  | _ => none }
def LawS4743AStateWrongFalsely : Prop := lawS4743AStateRow.holds Yba.pinned (OpenSpec.ofChange lawS4743AStateWrong)

/-- 'libsteal.LawS4743AAfterClaimHalf': WHATEVER THE INPUT: true; the input reads as it did. -/
def lawS4743AAfterClaimHalfSpec : ChangeSpec := { name := "lawS4743AAfterClaimHalf", fn := fun _ => fun
  | [d1, d2, d3] => { results := [.lit (.bool true)], args := [d1, d2, d3] }
  | _ => none }
def lawS4743AAfterClaimHalfRow : OpenClaim := { program := "ybulkctey", sum := "7fb15a8581d40b5edc1b88982c14c17619a9eb838710b28d5089932eb1ac9909", func := "example.com/libsteal/libsteal.LawS4743AAfterClaimHalf", spec := "lawS4743AAfterClaimHalf", inPlace := ["sync/atomic.StoreUint64", "sync/atomic.LoadUint64", "runtime.Gosched", "sync/atomic.CompareAndSwapUint64"], unfollowed := true, recurses := true, apart := false }
def LawS4743AAfterClaimHalfSaid : Prop := lawS4743AAfterClaimHalfRow.holds Yba.pinned (OpenSpec.ofChange lawS4743AAfterClaimHalfSpec)

/-- ITS FALSE NEIGHBOUR: 'it returns false'. Refute it at one input. -/
def lawS4743AAfterClaimHalfWrong : ChangeSpec := { name := "lawS4743AAfterClaimHalf", fn := fun _ => fun
  | [d1, d2, d3] => { results := [.lit (.bool false)], args := [d1, d2, d3] }
  | _ => none }
def LawS4743AAfterClaimHalfWrongFalsely : Prop := lawS4743AAfterClaimHalfRow.holds Yba.pinned (OpenSpec.ofChange lawS4743AAfterClaimHalfWrong)

/-- 'libsteal.LawS4743BQueue': WHATEVER THE INPUT: true; the input reads as it did. -/
def lawS4743BQueueSpec : ChangeSpec := { name := "lawS4743BQueue", fn := fun _ => fun
  | [d1, d2] => { results := [.lit (.bool true)], args := [d1, d2] }
  | _ => none }
def lawS4743BQueueRow : OpenClaim := { program := "ybulkctey", sum := "7fb15a8581d40b5edc1b88982c14c17619a9eb838710b28d5089932eb1ac9909", func := "example.com/libsteal/libsteal.LawS4743BQueue", spec := "lawS4743BQueue", inPlace := ["sync/atomic.LoadUint64", "runtime.Gosched", "sync/atomic.CompareAndSwapUint64", "(*internal/sync.Mutex).Lock", "internal/race.Disable", "sync/atomic.CompareAndSwapInt32", "internal/race.Enable", "internal/race.Acquire", "(*internal/sync.Mutex).lockSlow", "internal/sync.runtime_canSpin", "internal/sync.runtime_doSpin", "internal/sync.throw", "internal/sync.runtime_nanotime", "internal/sync.runtime_SemacquireMutex", "sync/atomic.AddInt32", "sync/atomic.StoreUint32", "(*internal/sync.Mutex).Unlock", "internal/race.ReleaseMerge", "(*internal/sync.Mutex).unlockSlow", "internal/sync.fatal", "internal/sync.runtime_Semrelease", "sync/atomic.LoadUint32"], unfollowed := true, recurses := true, apart := false }
def LawS4743BQueueSaid : Prop := lawS4743BQueueRow.holds Yba.pinned (OpenSpec.ofChange lawS4743BQueueSpec)

/-- ITS FALSE NEIGHBOUR: 'it returns false'. Refute it at one input. -/
def lawS4743BQueueWrong : ChangeSpec := { name := "lawS4743BQueue", fn := fun _ => fun
  | [d1, d2] => { results := [.lit (.bool false)], args := [d1, d2] }
  | _ => none }
def LawS4743BQueueWrongFalsely : Prop := lawS4743BQueueRow.holds Yba.pinned (OpenSpec.ofChange lawS4743BQueueWrong)

end Rows
end Go.Proofs.Ybulkctey

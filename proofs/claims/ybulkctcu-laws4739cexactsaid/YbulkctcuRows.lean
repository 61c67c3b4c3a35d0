/-
  No cell of these rows narrows 'for every input' (looked for: loops, veiled, ifaces, maps, wideKeys, modest, calm, conditions, laid).
  DERIVED. THE GIVEN ROWS OF THIS SEAT. 1 by the template 'for every input the law returns true; each argument reads behind the call as it read before'; 0 by the template 'total and deterministic' (their statements: YbulkctcuTotals.lean).
  GIVEN WITH THE SEED: the statements are not yours to turn. If you find one false, say at which input.
  Laid BY PROGRAM, IN A SANDBOX (cutbox-rows.mjs): the forced cells as the released guide's own fill.sh prints them over the translation d73a195ad6f5f16b… (all of the seat's roots in one cut). By AI agents, Wed Nov 11 2026. No macro, syntax, notation, axiom, sorry.
-/
import Derived.Test.YbulkctcuChecked
import GoSem.Claim
import GoSem.ClaimJoined
import GoSem.ClaimMapViews
import Derived.JoinedTies
import Derived.KernelRfl
namespace Go.Proofs.Ybulkctcu
/- THE CELL 'sum', in the pinned program and in every row, IS THE sha256 OF THE DUMP (.gsa) THAT YbulkctcuProg.lean LOADS. Nothing in Lean hashes anything: it is a label: what it is worth is what the hold of that sum in a sandbox is worth. -/
noncomputable def Yba.pinned : Pinned := { name := "ybulkctcu", sum := "d73a195ad6f5f16b6fd6d4d9a51c27ab597fb5989bb755e538498387719e88f4", checked := Yba.checked }
namespace Rows
def none {H : Type} : Left H := { results := [], args := [] }

/-- 'ec.LawS4739CExact': WHATEVER THE INPUT: true; the input reads as it did. -/
def lawS4739CExactSpec : ChangeSpec := { name := "lawS4739CExact", fn := fun _ => fun
  | [d1, d2, d3] => { results := [.lit (.bool true)], args := [d1, d2, d3] }
  | _ => none }
def lawS4739CExactRow : OpenClaim := { program := "ybulkctcu", sum := "d73a195ad6f5f16b6fd6d4d9a51c27ab597fb5989bb755e538498387719e88f4", func := "example.com/forkstress/forkstress/ec.LawS4739CExact", spec := "lawS4739CExact", inPlace := ["math.Float64bits"], apart := false }
def LawS4739CExactSaid : Prop := lawS4739CExactRow.holds Yba.pinned (OpenSpec.ofChange lawS4739CExactSpec)

/-- ITS FALSE NEIGHBOUR: 'it returns false'. Refute it at one input. -/
def lawS4739CExactWrong : ChangeSpec := { name := "lawS4739CExact", fn := fun _ => fun
  | [d1, d2, d3] => { results := [.lit (.bool false)], args := [d1, d2, d3] }
  | _ => none }
def LawS4739CExactWrongFalsely : Prop := lawS4739CExactRow.holds Yba.pinned (OpenSpec.ofChange lawS4739CExactWrong)

end Rows
end Go.Proofs.Ybulkctcu

/-
  No cell of these rows narrows 'for every input' (looked for: loops, veiled, ifaces, maps, wideKeys, modest, calm, conditions, laid).
  DERIVED. THE GIVEN ROWS OF THIS SEAT. 2 by the template 'for every input the law returns true; each argument reads behind the call as it read before'; 0 by the template 'total and deterministic' (their statements: YbulkcthcTotals.lean).
  GIVEN WITH THE SEED: the statements are not yours to turn. If you find one false, say at which input.
  Laid BY PROGRAM, IN A SANDBOX (cutbox-rows.mjs): the forced cells as the released guide's own fill.sh prints them over the translation b45287337c84ef5f… (all of the seat's roots in one cut). By AI agents, Wed Nov 11 2026. No macro, syntax, notation, axiom, sorry.
-/
import Derived.Test.YbulkcthcChecked
import GoSem.Claim
import GoSem.ClaimJoined
import GoSem.ClaimMapViews
import Derived.JoinedTies
import Derived.KernelRfl
namespace Go.Proofs.Ybulkcthc
/- THE CELL 'sum', in the pinned program and in every row, IS THE sha256 OF THE DUMP (.gsa) THAT YbulkcthcProg.lean LOADS. Nothing in Lean hashes anything: it is a label: what it is worth is what the hold of that sum in a sandbox is worth. -/
noncomputable def Yba.pinned : Pinned := { name := "ybulkcthc", sum := "b45287337c84ef5fc03e144ddd5d45f212f750b0515b65cef22552394b2f1946", checked := Yba.checked }
namespace Rows
def none {H : Type} : Left H := { results := [], args := [] }

/-- 'libdescr.LawS4747AChunks': WHATEVER THE INPUT: true; the input reads as it did. -/
def lawS4747AChunksSpec : ChangeSpec := { name := "lawS4747AChunks", fn := fun _ => fun
  | [d1, d2, d3] => { results := [.lit (.bool true)], args := [d1, d2, d3] }
  | _ => none }
def lawS4747AChunksRow : OpenClaim := { program := "ybulkcthc", sum := "b45287337c84ef5fc03e144ddd5d45f212f750b0515b65cef22552394b2f1946", func := "example.com/libdescr/libdescr.LawS4747AChunks", spec := "lawS4747AChunks", apart := false }
def LawS4747AChunksSaid : Prop := lawS4747AChunksRow.holds Yba.pinned (OpenSpec.ofChange lawS4747AChunksSpec)

/-- ITS FALSE NEIGHBOUR: 'it returns false'. Refute it at one input. -/
def lawS4747AChunksWrong : ChangeSpec := { name := "lawS4747AChunks", fn := fun _ => fun
  | [d1, d2, d3] => { results := [.lit (.bool false)], args := [d1, d2, d3] }
  | _ => none }
def LawS4747AChunksWrongFalsely : Prop := lawS4747AChunksRow.holds Yba.pinned (OpenSpec.ofChange lawS4747AChunksWrong)

/-- 'libdescr.LawS4747BKeep': WHATEVER THE INPUT: true; the input reads as it did. -/
def lawS4747BKeepSpec : ChangeSpec := { name := "lawS4747BKeep", fn := fun _ => fun
  | [d1, d2, d3, d4] => { results := [.lit (.bool true)], args := [d1, d2, d3, d4] }
  | _ => none }
def lawS4747BKeepRow : OpenClaim := { program := "ybulkcthc", sum := "b45287337c84ef5fc03e144ddd5d45f212f750b0515b65cef22552394b2f1946", func := "example.com/libdescr/libdescr.LawS4747BKeep", spec := "lawS4747BKeep", apart := false }
def LawS4747BKeepSaid : Prop := lawS4747BKeepRow.holds Yba.pinned (OpenSpec.ofChange lawS4747BKeepSpec)

/-- ITS FALSE NEIGHBOUR: 'it returns false'. Refute it at one input. -/
def lawS4747BKeepWrong : ChangeSpec := { name := "lawS4747BKeep", fn := fun _ => fun
  | [d1, d2, d3, d4] => { results := [.lit (.bool false)], args := [d1, d2, d3, d4] }
  | _ => none }
def LawS4747BKeepWrongFalsely : Prop := lawS4747BKeepRow.holds Yba.pinned (OpenSpec.ofChange lawS4747BKeepWrong)

end Rows
end Go.Proofs.Ybulkcthc

/-
  No cell of these rows narrows 'for every input' (looked for: loops, veiled, ifaces, maps, wideKeys, modest, calm, conditions, laid).
  DERIVED. THE GIVEN ROWS OF THIS SEAT. 2 by the template 'for every input the law returns true; each argument reads behind the call as it read before'; 0 by the template 'total and deterministic' (their statements: YbulkctcuFmtTotals.lean).
  GIVEN WITH THE SEED: the statements are not yours to turn. If you find one false, say at which input.
  Laid BY PROGRAM, IN A SANDBOX (cutbox-rows.mjs): the forced cells as the released guide's own fill.sh prints them over the translation 358442b1bbce2c57… (all of the seat's roots in one cut). By AI agents, Wed Nov 11 2026. No macro, syntax, notation, axiom, sorry.
-/
import Derived.Test.YbulkctcuFmtChecked
import GoSem.Claim
import GoSem.ClaimJoined
import GoSem.ClaimMapViews
import Derived.JoinedTies
import Derived.KernelRfl
namespace Go.Proofs.YbulkctcuFmt
/- THE CELL 'sum', in the pinned program and in every row, IS THE sha256 OF THE DUMP (.gsa) THAT YbulkctcuFmtProg.lean LOADS. Nothing in Lean hashes anything: it is a label: what it is worth is what the hold of that sum in a sandbox is worth. -/
noncomputable def Ybaf.pinned : Pinned := { name := "ybulkctcufmt", sum := "358442b1bbce2c570378413b92bc91b21363fcfc38f6dc2cf070f1127fc89de4", checked := Ybaf.checked }
namespace Rows
def none {H : Type} : Left H := { results := [], args := [] }

/-- 'forkstress.LawS4739AModel': WHATEVER THE INPUT: true; the input reads as it did. -/
def lawS4739AModelSpec : ChangeSpec := { name := "lawS4739AModel", fn := fun _ => fun
  | [d1, d2, d3] => { results := [.lit (.bool true)], args := [d1, d2, d3] }
  | _ => none }
def lawS4739AModelRow : OpenClaim := { program := "ybulkctcufmt", sum := "358442b1bbce2c570378413b92bc91b21363fcfc38f6dc2cf070f1127fc89de4", func := "example.com/forkstress/forkstress.LawS4739AModel", spec := "lawS4739AModel", stops := ["fmt.Sprintf, its operands' methods called"], inPlace := ["fmt.Sprintf"], unfollowed := true, recurses := true, apart := false }
/-- NO THEOREM (fmt's text is open here; it may be false): for the released tool's asking of the row's closed facts alone. THE STATEMENT IS 'LawS4739AModelToldSaid' (YbulkctcuFmtCards.lean). -/
def LawS4739AModelFormAsk : Prop := lawS4739AModelRow.holds Ybaf.pinned (OpenSpec.ofChange lawS4739AModelSpec)

/-- ITS FALSE NEIGHBOUR: 'it returns false'. Refute it at one input. -/
def lawS4739AModelWrong : ChangeSpec := { name := "lawS4739AModel", fn := fun _ => fun
  | [d1, d2, d3] => { results := [.lit (.bool false)], args := [d1, d2, d3] }
  | _ => none }
def LawS4739AModelWrongFormAsk : Prop := lawS4739AModelRow.holds Ybaf.pinned (OpenSpec.ofChange lawS4739AModelWrong)

/-- 'forkstress.LawS4739AValid': WHATEVER THE INPUT: true; the input reads as it did. -/
def lawS4739AValidSpec : ChangeSpec := { name := "lawS4739AValid", fn := fun _ => fun
  | [d1, d2, d3] => { results := [.lit (.bool true)], args := [d1, d2, d3] }
  | _ => none }
def lawS4739AValidRow : OpenClaim := { program := "ybulkctcufmt", sum := "358442b1bbce2c570378413b92bc91b21363fcfc38f6dc2cf070f1127fc89de4", func := "example.com/forkstress/forkstress.LawS4739AValid", spec := "lawS4739AValid", stops := ["fmt.Sprintf, its operands' methods called"], inPlace := ["fmt.Sprintf"], unfollowed := true, recurses := true, apart := false }
/-- NO THEOREM (fmt's text is open here; it may be false): for the released tool's asking of the row's closed facts alone. THE STATEMENT IS 'LawS4739AValidToldSaid' (YbulkctcuFmtCards.lean). -/
def LawS4739AValidFormAsk : Prop := lawS4739AValidRow.holds Ybaf.pinned (OpenSpec.ofChange lawS4739AValidSpec)

/-- ITS FALSE NEIGHBOUR: 'it returns false'. Refute it at one input. -/
def lawS4739AValidWrong : ChangeSpec := { name := "lawS4739AValid", fn := fun _ => fun
  | [d1, d2, d3] => { results := [.lit (.bool false)], args := [d1, d2, d3] }
  | _ => none }
def LawS4739AValidWrongFormAsk : Prop := lawS4739AValidRow.holds Ybaf.pinned (OpenSpec.ofChange lawS4739AValidWrong)

end Rows
end Go.Proofs.YbulkctcuFmt

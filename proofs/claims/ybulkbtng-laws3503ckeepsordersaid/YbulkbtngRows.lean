/-
  No cell of these rows narrows 'for every input' (looked for: loops, veiled, ifaces, maps, wideKeys, modest, calm, conditions, laid).
  DERIVED. THE GIVEN ROWS OF THIS SEAT. 2 by the template 'for every input the law returns true; each argument reads behind the call as it read before'; 0 by the template 'total and deterministic' (their statements: YbulkbtngTotals.lean).
  GIVEN WITH THE SEED: the statements are not yours to turn. If you find one false, say at which input.
  Laid BY PROGRAM, IN A SANDBOX (cutbox-rows.mjs): the forced cells as the released guide's own fill.sh prints them over the translation 1e365ad99da5b625… (all of the seat's roots in one cut). By AI agents, Wed Nov 11 2026. No macro, syntax, notation, axiom, sorry.
-/
import Derived.Test.YbulkbtngChecked
import GoSem.Claim
import GoSem.ClaimJoined
import GoSem.ClaimMapViews
import Derived.JoinedTies
import Derived.KernelRfl
namespace Go.Proofs.Ybulkbtng
/- THE CELL 'sum', in the pinned program and in every row, IS THE sha256 OF THE DUMP (.gsa) THAT YbulkbtngProg.lean LOADS. Nothing in Lean hashes anything: it is a label: what it is worth is what the hold of that sum in a sandbox is worth. -/
noncomputable def Yba.pinned : Pinned := { name := "ybulkbtng", sum := "1e365ad99da5b62503def7c5ecf7f6604b3ebf961ae02f2ea33bec54300fb620", checked := Yba.checked }
namespace Rows
def none {H : Type} : Left H := { results := [], args := [] }

/-- 'tideloop.LawS3503CLayout': WHATEVER THE INPUT: true; the input reads as it did. -/
def lawS3503CLayoutSpec : ChangeSpec := { name := "lawS3503CLayout", fn := fun _ => fun
  | [d] => { results := [.lit (.bool true)], args := [d] }
  | _ => none }
def lawS3503CLayoutRow : OpenClaim := { program := "ybulkbtng", sum := "1e365ad99da5b62503def7c5ecf7f6604b3ebf961ae02f2ea33bec54300fb620", func := "example.com/tideloop/tideloop.LawS3503CLayout", spec := "lawS3503CLayout", apart := false }
def LawS3503CLayoutSaid : Prop := lawS3503CLayoutRow.holds Yba.pinned (OpenSpec.ofChange lawS3503CLayoutSpec)

/-- ITS FALSE NEIGHBOUR: 'it returns false'. Refute it at one input. -/
def lawS3503CLayoutWrong : ChangeSpec := { name := "lawS3503CLayout", fn := fun _ => fun
  | [d] => { results := [.lit (.bool false)], args := [d] }
  | _ => none }
def LawS3503CLayoutWrongFalsely : Prop := lawS3503CLayoutRow.holds Yba.pinned (OpenSpec.ofChange lawS3503CLayoutWrong)

/-- 'tideloop.LawS3503CKeepsOrder': WHATEVER THE INPUT: true; the input reads as it did. -/
def lawS3503CKeepsOrderSpec : ChangeSpec := { name := "lawS3503CKeepsOrder", fn := fun _ => fun
  | [d1, d2] => { results := [.lit (.bool true)], args := [d1, d2] }
  | _ => none }
def lawS3503CKeepsOrderRow : OpenClaim := { program := "ybulkbtng", sum := "1e365ad99da5b62503def7c5ecf7f6604b3ebf961ae02f2ea33bec54300fb620", func := "example.com/tideloop/tideloop.LawS3503CKeepsOrder", spec := "lawS3503CKeepsOrder", apart := false }
def LawS3503CKeepsOrderSaid : Prop := lawS3503CKeepsOrderRow.holds Yba.pinned (OpenSpec.ofChange lawS3503CKeepsOrderSpec)

/-- ITS FALSE NEIGHBOUR: 'it returns false'. Refute it at one input. -/
def lawS3503CKeepsOrderWrong : ChangeSpec := { name := "lawS3503CKeepsOrder", fn := fun _ => fun
  | [d1, d2] => { results := [.lit (.bool false)], args := [d1, d2] }
  | _ => none }
def LawS3503CKeepsOrderWrongFalsely : Prop := lawS3503CKeepsOrderRow.holds Yba.pinned (OpenSpec.ofChange lawS3503CKeepsOrderWrong)

end Rows
end Go.Proofs.Ybulkbtng

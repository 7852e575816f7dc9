/-
  No cell of these rows narrows 'for every input' (looked for: loops, veiled, ifaces, maps, wideKeys, modest, calm, conditions, laid).
  DERIVED. THE GIVEN ROWS OF THIS SEAT. 4 by the template 'for every input the law returns true; each argument reads behind the call as it read before'; 0 by the template 'total and deterministic' (their statements: YbulkbtlqTotals.lean).
  GIVEN WITH THE SEED: the statements are not yours to turn. If you find one false, say at which input.
  Laid BY PROGRAM, IN A SANDBOX (cutbox-rows.mjs): the forced cells as the released guide's own fill.sh prints them over the translation 84d4bcd50a49b6ec… (all of the seat's roots in one cut). By AI agents, Wed Nov 11 2026. No macro, syntax, notation, axiom, sorry.
-/
import Derived.Test.YbulkbtlqChecked
import GoSem.Claim
import GoSem.ClaimJoined
import GoSem.ClaimMapViews
import Derived.JoinedTies
import Derived.KernelRfl
namespace Go.Proofs.Ybulkbtlq
/- THE CELL 'sum', in the pinned program and in every row, IS THE sha256 OF THE DUMP (.gsa) THAT YbulkbtlqProg.lean LOADS. Nothing in Lean hashes anything: it is a label: what it is worth is what the hold of that sum in a sandbox is worth. -/
noncomputable def Yba.pinned : Pinned := { name := "ybulkbtlq", sum := "84d4bcd50a49b6ec2b0b34e5a619b25e620959ea3a04dadf989490ec16d474f7", checked := Yba.checked }
namespace Rows
def none {H : Type} : Left H := { results := [], args := [] }

/-- 'interest.LawS3500AByInvoice': WHATEVER THE INPUT: true; the input reads as it did. -/
def lawS3500AByInvoiceSpec : ChangeSpec := { name := "lawS3500AByInvoice", fn := fun _ => fun
  | [d1, d2, d3, d4] => { results := [.lit (.bool true)], args := [d1, d2, d3, d4] }
  | _ => none }
def lawS3500AByInvoiceRow : OpenClaim := { program := "ybulkbtlq", sum := "84d4bcd50a49b6ec2b0b34e5a619b25e620959ea3a04dadf989490ec16d474f7", func := "example.com/mora-ledger/mora-ledger/internal/interest.LawS3500AByInvoice", spec := "lawS3500AByInvoice", unfollowed := true, recurses := true, apart := false }
def LawS3500AByInvoiceSaid : Prop := lawS3500AByInvoiceRow.holds Yba.pinned (OpenSpec.ofChange lawS3500AByInvoiceSpec)

/-- ITS FALSE NEIGHBOUR: 'it returns false'. Refute it at one input. -/
def lawS3500AByInvoiceWrong : ChangeSpec := { name := "lawS3500AByInvoice", fn := fun _ => fun
  | [d1, d2, d3, d4] => { results := [.lit (.bool false)], args := [d1, d2, d3, d4] }
  | _ => none }
def LawS3500AByInvoiceWrongFalsely : Prop := lawS3500AByInvoiceRow.holds Yba.pinned (OpenSpec.ofChange lawS3500AByInvoiceWrong)

/-- 'interest.LawS3500ASlices': WHATEVER THE INPUT: true; the input reads as it did. -/
def lawS3500ASlicesSpec : ChangeSpec := { name := "lawS3500ASlices", fn := fun _ => fun
  | [d] => { results := [.lit (.bool true)], args := [d] }
  | _ => none }
def lawS3500ASlicesRow : OpenClaim := { program := "ybulkbtlq", sum := "84d4bcd50a49b6ec2b0b34e5a619b25e620959ea3a04dadf989490ec16d474f7", func := "example.com/mora-ledger/mora-ledger/internal/interest.LawS3500ASlices", spec := "lawS3500ASlices", apart := false }
def LawS3500ASlicesSaid : Prop := lawS3500ASlicesRow.holds Yba.pinned (OpenSpec.ofChange lawS3500ASlicesSpec)

/-- ITS FALSE NEIGHBOUR: 'it returns false'. Refute it at one input. -/
def lawS3500ASlicesWrong : ChangeSpec := { name := "lawS3500ASlices", fn := fun _ => fun
  | [d] => { results := [.lit (.bool false)], args := [d] }
  | _ => none }
def LawS3500ASlicesWrongFalsely : Prop := lawS3500ASlicesRow.holds Yba.pinned (OpenSpec.ofChange lawS3500ASlicesWrong)

/-- 'terms.LawS3500BExact': WHATEVER THE INPUT: true; the input reads as it did. -/
def lawS3500BExactSpec : ChangeSpec := { name := "lawS3500BExact", fn := fun _ => fun
  | [d1, d2, d3, d4] => { results := [.lit (.bool true)], args := [d1, d2, d3, d4] }
  | _ => none }
def lawS3500BExactRow : OpenClaim := { program := "ybulkbtlq", sum := "84d4bcd50a49b6ec2b0b34e5a619b25e620959ea3a04dadf989490ec16d474f7", func := "example.com/mora-ledger/mora-ledger/internal/terms.LawS3500BExact", spec := "lawS3500BExact", apart := false }
def LawS3500BExactSaid : Prop := lawS3500BExactRow.holds Yba.pinned (OpenSpec.ofChange lawS3500BExactSpec)

/-- ITS FALSE NEIGHBOUR: 'it returns false'. Refute it at one input. -/
def lawS3500BExactWrong : ChangeSpec := { name := "lawS3500BExact", fn := fun _ => fun
  | [d1, d2, d3, d4] => { results := [.lit (.bool false)], args := [d1, d2, d3, d4] }
  | _ => none }
def LawS3500BExactWrongFalsely : Prop := lawS3500BExactRow.holds Yba.pinned (OpenSpec.ofChange lawS3500BExactWrong)

/-- 'terms.LawS3500BSplit': WHATEVER THE INPUT: true; the input reads as it did. -/
def lawS3500BSplitSpec : ChangeSpec := { name := "lawS3500BSplit", fn := fun _ => fun
  | [d1, d2, d3, d4] => { results := [.lit (.bool true)], args := [d1, d2, d3, d4] }
  | _ => none }
def lawS3500BSplitRow : OpenClaim := { program := "ybulkbtlq", sum := "84d4bcd50a49b6ec2b0b34e5a619b25e620959ea3a04dadf989490ec16d474f7", func := "example.com/mora-ledger/mora-ledger/internal/terms.LawS3500BSplit", spec := "lawS3500BSplit", apart := false }
def LawS3500BSplitSaid : Prop := lawS3500BSplitRow.holds Yba.pinned (OpenSpec.ofChange lawS3500BSplitSpec)

/-- ITS FALSE NEIGHBOUR: 'it returns false'. Refute it at one input. -/
def lawS3500BSplitWrong : ChangeSpec := { name := "lawS3500BSplit", fn := fun _ => fun
  | [d1, d2, d3, d4] => { results := [.lit (.bool false)], args := [d1, d2, d3, d4] }
  | _ => none }
def LawS3500BSplitWrongFalsely : Prop := lawS3500BSplitRow.holds Yba.pinned (OpenSpec.ofChange lawS3500BSplitWrong)

end Rows
end Go.Proofs.Ybulkbtlq

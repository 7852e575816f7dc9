/-
  No cell of these rows narrows 'for every input' (looked for: loops, veiled, ifaces, maps, wideKeys, modest, calm, conditions, laid).
  DERIVED. THE GIVEN ROWS OF THIS SEAT. 3 by the template 'for every input the law returns true; each argument reads behind the call as it read before'; 0 by the template 'total and deterministic' (their statements: YbulkbtowTotals.lean).
  GIVEN WITH THE SEED: the statements are not yours to turn. If you find one false, say at which input.
  Laid BY PROGRAM, IN A SANDBOX (cutbox-rows.mjs): the forced cells as the released guide's own fill.sh prints them over the translation ed4b363c9e959277… (all of the seat's roots in one cut). By AI agents, Wed Nov 11 2026. No macro, syntax, notation, axiom, sorry.
-/
import Derived.Test.YbulkbtowChecked
import GoSem.Claim
import GoSem.ClaimJoined
import GoSem.ClaimMapViews
import Derived.JoinedTies
import Derived.KernelRfl
namespace Go.Proofs.Ybulkbtow
/- THE CELL 'sum', in the pinned program and in every row, IS THE sha256 OF THE DUMP (.gsa) THAT YbulkbtowProg.lean LOADS. Nothing in Lean hashes anything: it is a label: what it is worth is what the hold of that sum in a sandbox is worth. -/
noncomputable def Yba.pinned : Pinned := { name := "ybulkbtow", sum := "ed4b363c9e959277213fa8a96965d6df9d42460d133790ebd6b81a667c63d9d8", checked := Yba.checked }
namespace Rows
def none {H : Type} : Left H := { results := [], args := [] }

/-- 'xorlane.LawS3506BModel': WHATEVER THE INPUT: true; the input reads as it did. -/
def lawS3506BModelSpec : ChangeSpec := { name := "lawS3506BModel", fn := fun _ => fun
  | [d1, d2, d3, d4, d5, d6, d7] => { results := [.lit (.bool true)], args := [d1, d2, d3, d4, d5, d6, d7] }
  | _ => none }
def lawS3506BModelRow : OpenClaim := { program := "ybulkbtow", sum := "ed4b363c9e959277213fa8a96965d6df9d42460d133790ebd6b81a667c63d9d8", func := "example.com/xorlane/xorlane.LawS3506BModel", spec := "lawS3506BModel", unfollowed := true, recurses := true, plainKeys := false, apart := false }
def LawS3506BModelSaid : Prop := lawS3506BModelRow.holds Yba.pinned (OpenSpec.ofChange lawS3506BModelSpec)

/-- ITS FALSE NEIGHBOUR: 'it returns false'. Refute it at one input. -/
def lawS3506BModelWrong : ChangeSpec := { name := "lawS3506BModel", fn := fun _ => fun
  | [d1, d2, d3, d4, d5, d6, d7] => { results := [.lit (.bool false)], args := [d1, d2, d3, d4, d5, d6, d7] }
  | _ => none }
def LawS3506BModelWrongFalsely : Prop := lawS3506BModelRow.holds Yba.pinned (OpenSpec.ofChange lawS3506BModelWrong)

/-- 'testnet.LawS3506CDeliver': WHATEVER THE INPUT: true; the input reads as it did. -/
def lawS3506CDeliverSpec : ChangeSpec := { name := "lawS3506CDeliver", fn := fun _ => fun
  | [d1, d2, d3, d4, d5, d6] => { results := [.lit (.bool true)], args := [d1, d2, d3, d4, d5, d6] }
  | _ => none }
def lawS3506CDeliverRow : OpenClaim := { program := "ybulkbtow", sum := "ed4b363c9e959277213fa8a96965d6df9d42460d133790ebd6b81a667c63d9d8", func := "example.com/xorlane/xorlane/internal/testnet.LawS3506CDeliver", spec := "lawS3506CDeliver", inPlace := ["(*internal/sync.Mutex).Lock", "internal/race.Disable", "sync/atomic.CompareAndSwapInt32", "internal/race.Enable", "internal/race.Acquire", "(*internal/sync.Mutex).lockSlow", "internal/sync.runtime_canSpin", "internal/sync.runtime_doSpin", "internal/sync.throw", "internal/sync.runtime_nanotime", "internal/sync.runtime_SemacquireMutex", "sync/atomic.AddInt32", "(*internal/sync.Mutex).Unlock", "internal/race.ReleaseMerge", "(*internal/sync.Mutex).unlockSlow", "internal/sync.fatal", "internal/sync.runtime_Semrelease", "(*internal/sync.Mutex).TryLock"], plainKeys := false, apart := false }
def LawS3506CDeliverSaid : Prop := lawS3506CDeliverRow.holds Yba.pinned (OpenSpec.ofChange lawS3506CDeliverSpec)

/-- ITS FALSE NEIGHBOUR: 'it returns false'. Refute it at one input. -/
def lawS3506CDeliverWrong : ChangeSpec := { name := "lawS3506CDeliver", fn := fun _ => fun
  | [d1, d2, d3, d4, d5, d6] => { results := [.lit (.bool false)], args := [d1, d2, d3, d4, d5, d6] }
  | _ => none }
def LawS3506CDeliverWrongFalsely : Prop := lawS3506CDeliverRow.holds Yba.pinned (OpenSpec.ofChange lawS3506CDeliverWrong)

/-- 'testnet.LawS3506CFill': WHATEVER THE INPUT: true; the input reads as it did. -/
def lawS3506CFillSpec : ChangeSpec := { name := "lawS3506CFill", fn := fun _ => fun
  | [d1, d2] => { results := [.lit (.bool true)], args := [d1, d2] }
  | _ => none }
def lawS3506CFillRow : OpenClaim := { program := "ybulkbtow", sum := "ed4b363c9e959277213fa8a96965d6df9d42460d133790ebd6b81a667c63d9d8", func := "example.com/xorlane/xorlane/internal/testnet.LawS3506CFill", spec := "lawS3506CFill", inPlace := ["(*internal/sync.Mutex).Lock", "internal/race.Disable", "sync/atomic.CompareAndSwapInt32", "internal/race.Enable", "internal/race.Acquire", "(*internal/sync.Mutex).lockSlow", "internal/sync.runtime_canSpin", "internal/sync.runtime_doSpin", "internal/sync.throw", "internal/sync.runtime_nanotime", "internal/sync.runtime_SemacquireMutex", "sync/atomic.AddInt32", "(*internal/sync.Mutex).Unlock", "internal/race.ReleaseMerge", "(*internal/sync.Mutex).unlockSlow", "internal/sync.fatal", "internal/sync.runtime_Semrelease"], plainKeys := false, apart := false }
def LawS3506CFillSaid : Prop := lawS3506CFillRow.holds Yba.pinned (OpenSpec.ofChange lawS3506CFillSpec)

/-- ITS FALSE NEIGHBOUR: 'it returns false'. Refute it at one input. -/
def lawS3506CFillWrong : ChangeSpec := { name := "lawS3506CFill", fn := fun _ => fun
  | [d1, d2] => { results := [.lit (.bool false)], args := [d1, d2] }
  | _ => none }
def LawS3506CFillWrongFalsely : Prop := lawS3506CFillRow.holds Yba.pinned (OpenSpec.ofChange lawS3506CFillWrong)

end Rows
end Go.Proofs.Ybulkbtow

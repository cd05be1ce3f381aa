/-
  No cell of these rows narrows 'for every input' (looked for: loops, veiled, ifaces, maps, wideKeys, modest, calm, conditions, laid).
  DERIVED. THE GIVEN ROWS OF THIS SEAT. 2 by the template 'for every input the law returns true; each argument reads behind the call as it read before'; 0 by the template 'total and deterministic' (their statements: YbulkbtyaTotals.lean).
  GIVEN WITH THE SEED: the statements are not yours to turn. If you find one false, say at which input.
  Laid BY PROGRAM, IN A SANDBOX (cutbox-rows.mjs): the forced cells as the released guide's own fill.sh prints them over the translation 747a0187808fae16… (all of the seat's roots in one cut). By AI agents, Wed Nov 11 2026. No macro, syntax, notation, axiom, sorry.
-/
import Derived.Test.YbulkbtyaChecked
import GoSem.Claim
import GoSem.ClaimJoined
import GoSem.ClaimMapViews
import Derived.JoinedTies
import Derived.KernelRfl
namespace Go.Proofs.Ybulkbtya
/- THE CELL 'sum', in the pinned program and in every row, IS THE sha256 OF THE DUMP (.gsa) THAT YbulkbtyaProg.lean LOADS. Nothing in Lean hashes anything: it is a label: what it is worth is what the hold of that sum in a sandbox is worth. -/
noncomputable def Yba.pinned : Pinned := { name := "ybulkbtya", sum := "747a0187808fae165365d4e4384eaba6fe1194d823ceb5c5a5dc72a2f80c5f78", checked := Yba.checked }
namespace Rows
def none {H : Type} : Left H := { results := [], args := [] }

/-- 'pooltest.LawS3523BOrder': WHATEVER THE INPUT: true; the input reads as it did. -/
def lawS3523BOrderSpec : ChangeSpec := { name := "lawS3523BOrder", fn := fun _ => fun
  | [d] => { results := [.lit (.bool true)], args := [d] }
  | _ => none }
def lawS3523BOrderRow : OpenClaim := { program := "ybulkbtya", sum := "747a0187808fae165365d4e4384eaba6fe1194d823ceb5c5a5dc72a2f80c5f78", func := "example.com/causeway/causeway/internal/pooltest.LawS3523BOrder", spec := "lawS3523BOrder", inPlace := ["(*internal/sync.Mutex).Lock", "internal/race.Disable", "sync/atomic.CompareAndSwapInt32", "internal/race.Enable", "internal/race.Acquire", "(*internal/sync.Mutex).lockSlow", "internal/sync.runtime_canSpin", "internal/sync.runtime_doSpin", "internal/sync.throw", "internal/sync.runtime_nanotime", "internal/sync.runtime_SemacquireMutex", "sync/atomic.AddInt32", "(*internal/sync.Mutex).Unlock", "internal/race.ReleaseMerge", "(*internal/sync.Mutex).unlockSlow", "internal/sync.fatal", "internal/sync.runtime_Semrelease"], apart := false }
def LawS3523BOrderSaid : Prop := lawS3523BOrderRow.holds Yba.pinned (OpenSpec.ofChange lawS3523BOrderSpec)

/-- ITS FALSE NEIGHBOUR: 'it returns false'. Refute it at one input. -/
def lawS3523BOrderWrong : ChangeSpec := { name := "lawS3523BOrder", fn := fun _ => fun
  | [d] => { results := [.lit (.bool false)], args := [d] }
  | _ => none }
def LawS3523BOrderWrongFalsely : Prop := lawS3523BOrderRow.holds Yba.pinned (OpenSpec.ofChange lawS3523BOrderWrong)

/-- 'pooltest.LawS3523BCopy': WHATEVER THE INPUT: true; the input reads as it did. -/
def lawS3523BCopySpec : ChangeSpec := { name := "lawS3523BCopy", fn := fun _ => fun
  | [d] => { results := [.lit (.bool true)], args := [d] }
  | _ => none }
def lawS3523BCopyRow : OpenClaim := { program := "ybulkbtya", sum := "747a0187808fae165365d4e4384eaba6fe1194d823ceb5c5a5dc72a2f80c5f78", func := "example.com/causeway/causeway/internal/pooltest.LawS3523BCopy", spec := "lawS3523BCopy", inPlace := ["(*internal/sync.Mutex).Lock", "internal/race.Disable", "sync/atomic.CompareAndSwapInt32", "internal/race.Enable", "internal/race.Acquire", "(*internal/sync.Mutex).lockSlow", "internal/sync.runtime_canSpin", "internal/sync.runtime_doSpin", "internal/sync.throw", "internal/sync.runtime_nanotime", "internal/sync.runtime_SemacquireMutex", "sync/atomic.AddInt32", "(*internal/sync.Mutex).Unlock", "internal/race.ReleaseMerge", "(*internal/sync.Mutex).unlockSlow", "internal/sync.fatal", "internal/sync.runtime_Semrelease"], apart := false }
def LawS3523BCopySaid : Prop := lawS3523BCopyRow.holds Yba.pinned (OpenSpec.ofChange lawS3523BCopySpec)

/-- ITS FALSE NEIGHBOUR: 'it returns false'. Refute it at one input. -/
def lawS3523BCopyWrong : ChangeSpec := { name := "lawS3523BCopy", fn := fun _ => fun
  | [d] => { results := [.lit (.bool false)], args := [d] }
  | _ => none }
def LawS3523BCopyWrongFalsely : Prop := lawS3523BCopyRow.holds Yba.pinned (OpenSpec.ofChange lawS3523BCopyWrong)

end Rows
end Go.Proofs.Ybulkbtya

/-
  No cell of these rows narrows 'for every input' (looked for: loops, veiled, ifaces, maps, wideKeys, modest, calm, conditions, laid).
  DERIVED. THE GIVEN ROWS OF THIS SEAT. 3 by the template 'for every input the law returns true; each argument reads behind the call as it read before'; 0 by the template 'total and deterministic' (their statements: YbulkcdnwTotals.lean).
  GIVEN WITH THE SEED: the statements are not yours to turn. If you find one false, say at which input.
  Laid BY PROGRAM, IN A SANDBOX (cutbox-rows.mjs): the forced cells as the released guide's own fill.sh prints them over the translation 4169b0e08e8475e5… (all of the seat's roots in one cut). By AI agents, Wed Nov 11 2026. No macro, syntax, notation, axiom, sorry.
-/
import Derived.Test.YbulkcdnwChecked
import GoSem.Claim
import GoSem.ClaimJoined
import GoSem.ClaimMapViews
import Derived.JoinedTies
import Derived.KernelRfl
namespace Go.Proofs.Ybulkcdnw
/- THE CELL 'sum', in the pinned program and in every row, IS THE sha256 OF THE DUMP (.gsa) THAT YbulkcdnwProg.lean LOADS. Nothing in Lean hashes anything: it is a label: what it is worth is what the hold of that sum in a sandbox is worth. -/
noncomputable def Yba.pinned : Pinned := { name := "ybulkcdnw", sum := "4169b0e08e8475e5d8b2b42b9bed37a797db8881b10f719ac867e81f6a842a4a", checked := Yba.checked }
namespace Rows
def none {H : Type} : Left H := { results := [], args := [] }

/-- 'membership.LawS3987AProposes': WHATEVER THE INPUT: true; the input reads as it did. -/
def lawS3987AProposesSpec : ChangeSpec := { name := "lawS3987AProposes", fn := fun _ => fun
  | [d1, d2, d3, d4, d5, d6, d7, d8, d9] => { results := [.lit (.bool true)], args := [d1, d2, d3, d4, d5, d6, d7, d8, d9] }
  | _ => none }
def lawS3987AProposesRow : OpenClaim := { program := "ybulkcdnw", sum := "4169b0e08e8475e5d8b2b42b9bed37a797db8881b10f719ac867e81f6a842a4a", func := "example.com/muster/muster/internal/membership.LawS3987AProposes", spec := "lawS3987AProposes", unfollowed := true, recurses := true, plainKeys := false, apart := false }
def LawS3987AProposesSaid : Prop := lawS3987AProposesRow.holds Yba.pinned (OpenSpec.ofChange lawS3987AProposesSpec)

/-- ITS FALSE NEIGHBOUR: 'it returns false'. Refute it at one input. -/
def lawS3987AProposesWrong : ChangeSpec := { name := "lawS3987AProposes", fn := fun _ => fun
  | [d1, d2, d3, d4, d5, d6, d7, d8, d9] => { results := [.lit (.bool false)], args := [d1, d2, d3, d4, d5, d6, d7, d8, d9] }
  | _ => none }
def LawS3987AProposesWrongFalsely : Prop := lawS3987AProposesRow.holds Yba.pinned (OpenSpec.ofChange lawS3987AProposesWrong)

/-- 'membership.LawS3987BSends': WHATEVER THE INPUT: true; the input reads as it did. -/
def lawS3987BSendsSpec : ChangeSpec := { name := "lawS3987BSends", fn := fun _ => fun
  | [d1, d2, d3, d4, d5, d6, d7, d8, d9] => { results := [.lit (.bool true)], args := [d1, d2, d3, d4, d5, d6, d7, d8, d9] }
  | _ => none }
def lawS3987BSendsRow : OpenClaim := { program := "ybulkcdnw", sum := "4169b0e08e8475e5d8b2b42b9bed37a797db8881b10f719ac867e81f6a842a4a", func := "example.com/muster/muster/internal/membership.LawS3987BSends", spec := "lawS3987BSends", plainKeys := false, apart := false }
def LawS3987BSendsSaid : Prop := lawS3987BSendsRow.holds Yba.pinned (OpenSpec.ofChange lawS3987BSendsSpec)

/-- ITS FALSE NEIGHBOUR: 'it returns false'. Refute it at one input. -/
def lawS3987BSendsWrong : ChangeSpec := { name := "lawS3987BSends", fn := fun _ => fun
  | [d1, d2, d3, d4, d5, d6, d7, d8, d9] => { results := [.lit (.bool false)], args := [d1, d2, d3, d4, d5, d6, d7, d8, d9] }
  | _ => none }
def LawS3987BSendsWrongFalsely : Prop := lawS3987BSendsRow.holds Yba.pinned (OpenSpec.ofChange lawS3987BSendsWrong)

/-- 'agent.LawS3987CReturnsCounts': WHATEVER THE INPUT: true; the input reads as it did. -/
def lawS3987CReturnsCountsSpec : ChangeSpec := { name := "lawS3987CReturnsCounts", fn := fun _ => fun
  | [d1, d2, d3] => { results := [.lit (.bool true)], args := [d1, d2, d3] }
  | _ => none }
def lawS3987CReturnsCountsRow : OpenClaim := { program := "ybulkcdnw", sum := "4169b0e08e8475e5d8b2b42b9bed37a797db8881b10f719ac867e81f6a842a4a", func := "example.com/muster/muster/internal/agent.LawS3987CReturnsCounts", spec := "lawS3987CReturnsCounts", inPlace := ["(*internal/sync.Mutex).Lock", "internal/race.Disable", "sync/atomic.CompareAndSwapInt32", "internal/race.Enable", "internal/race.Acquire", "(*internal/sync.Mutex).lockSlow", "internal/sync.runtime_canSpin", "internal/sync.runtime_doSpin", "internal/sync.throw", "internal/sync.runtime_nanotime", "internal/sync.runtime_SemacquireMutex", "sync/atomic.AddInt32", "(*internal/sync.Mutex).Unlock", "internal/race.ReleaseMerge", "(*internal/sync.Mutex).unlockSlow", "internal/sync.fatal", "internal/sync.runtime_Semrelease", "(*internal/sync.Mutex).TryLock"], plainKeys := false, apart := false }
def LawS3987CReturnsCountsSaid : Prop := lawS3987CReturnsCountsRow.holds Yba.pinned (OpenSpec.ofChange lawS3987CReturnsCountsSpec)

/-- ITS FALSE NEIGHBOUR: 'it returns false'. Refute it at one input. -/
def lawS3987CReturnsCountsWrong : ChangeSpec := { name := "lawS3987CReturnsCounts", fn := fun _ => fun
  | [d1, d2, d3] => { results := [.lit (.bool false)], args := [d1, d2, d3] }
  | _ => none }
def LawS3987CReturnsCountsWrongFalsely : Prop := lawS3987CReturnsCountsRow.holds Yba.pinned (OpenSpec.ofChange lawS3987CReturnsCountsWrong)

end Rows
end Go.Proofs.Ybulkcdnw

/-
  No cell of these rows narrows 'for every input' (looked for: loops, veiled, ifaces, maps, wideKeys, modest, calm, conditions, laid).
  DERIVED. THE GIVEN ROWS OF THIS SEAT. 4 by the template 'for every input the law returns true; each argument reads behind the call as it read before'; 0 by the template 'total and deterministic' (their statements: Qxb6618660aTotals.lean).
  GIVEN WITH THE SEED: the statements are not yours to turn. If you find one false, say at which input.
  Laid BY PROGRAM, IN A SANDBOX (cutbox-rows.mjs): the forced cells as the released guide's own fill.sh prints them over the translation 878a2e890f5a80a1… (all of the seat's roots in one cut). By AI agents, Wed Nov 11 2026. No macro, syntax, notation, axiom, sorry.
-/
import Derived.Test.Qxb6618660aChecked
import GoSem.Claim
import GoSem.ClaimJoined
import GoSem.ClaimMapViews
import Derived.JoinedTies
import Derived.KernelRfl
namespace Go.Proofs.Qxb6618660a
/- THE CELL 'sum', in the pinned program and in every row, IS THE sha256 OF THE DUMP (.gsa) THAT Qxb6618660aProg.lean LOADS. Nothing in Lean hashes anything: it is a label: what it is worth is what the hold of that sum in a sandbox is worth. -/
noncomputable def Try.pinned : Pinned := { name := "qxb6618660a", sum := "878a2e890f5a80a14489978d7c27a598fead235d6a2895298b4f05da780d7185", checked := Try.checked }
namespace Rows
def none {H : Type} : Left H := { results := [], args := [] }

/-- 'zzlaws_places_b1.FnKeepWithdrawsAllButYieldingFromOpen': WHATEVER THE INPUT: true; the input reads as it did. -/
def fnKeepWithdrawsAllButYieldingFromOpenSpec : ChangeSpec := { name := "fnKeepWithdrawsAllButYieldingFromOpen", fn := fun _ => fun
  | [d1, d2, d3, d4, d5] => { results := [.lit (.bool true)], args := [d1, d2, d3, d4, d5] }
  | _ => none }
def fnKeepWithdrawsAllButYieldingFromOpenRow : OpenClaim := { program := "qxb6618660a", sum := "878a2e890f5a80a14489978d7c27a598fead235d6a2895298b4f05da780d7185", func := "example.com/ready-to-result/ready-to-result/zzlaws_places_b1.FnKeepWithdrawsAllButYieldingFromOpen", spec := "fnKeepWithdrawsAllButYieldingFromOpen", inPlace := ["(*internal/sync.Mutex).Lock", "internal/race.Disable", "sync/atomic.CompareAndSwapInt32", "internal/race.Enable", "internal/race.Acquire", "(*internal/sync.Mutex).lockSlow", "internal/sync.runtime_canSpin", "internal/sync.runtime_doSpin", "internal/sync.throw", "internal/sync.runtime_nanotime", "internal/sync.runtime_SemacquireMutex", "sync/atomic.AddInt32", "(*internal/sync.Mutex).Unlock", "internal/race.ReleaseMerge", "(*internal/sync.Mutex).unlockSlow", "internal/sync.fatal", "internal/sync.runtime_Semrelease"], unfollowed := true, recurses := true, apart := false }
def FnKeepWithdrawsAllButYieldingFromOpenSaid : Prop := fnKeepWithdrawsAllButYieldingFromOpenRow.holds Try.pinned (OpenSpec.ofChange fnKeepWithdrawsAllButYieldingFromOpenSpec)

/-- ITS FALSE NEIGHBOUR: 'it returns false'. Refute it at one input. -/
def fnKeepWithdrawsAllButYieldingFromOpenWrong : ChangeSpec := { name := "fnKeepWithdrawsAllButYieldingFromOpen", fn := fun _ => fun
  | [d1, d2, d3, d4, d5] => { results := [.lit (.bool false)], args := [d1, d2, d3, d4, d5] }
  | _ => none }
def FnKeepWithdrawsAllButYieldingFromOpenWrongFalsely : Prop := fnKeepWithdrawsAllButYieldingFromOpenRow.holds Try.pinned (OpenSpec.ofChange fnKeepWithdrawsAllButYieldingFromOpenWrong)

/-- 'zzlaws_places_b1.FnKeepTwiceIsOnceAndGivesBackEvenly': WHATEVER THE INPUT: true; the input reads as it did. -/
def fnKeepTwiceIsOnceAndGivesBackEvenlySpec : ChangeSpec := { name := "fnKeepTwiceIsOnceAndGivesBackEvenly", fn := fun _ => fun
  | [d1, d2, d3, d4] => { results := [.lit (.bool true)], args := [d1, d2, d3, d4] }
  | _ => none }
def fnKeepTwiceIsOnceAndGivesBackEvenlyRow : OpenClaim := { program := "qxb6618660a", sum := "878a2e890f5a80a14489978d7c27a598fead235d6a2895298b4f05da780d7185", func := "example.com/ready-to-result/ready-to-result/zzlaws_places_b1.FnKeepTwiceIsOnceAndGivesBackEvenly", spec := "fnKeepTwiceIsOnceAndGivesBackEvenly", inPlace := ["(*internal/sync.Mutex).Lock", "internal/race.Disable", "sync/atomic.CompareAndSwapInt32", "internal/race.Enable", "internal/race.Acquire", "(*internal/sync.Mutex).lockSlow", "internal/sync.runtime_canSpin", "internal/sync.runtime_doSpin", "internal/sync.throw", "internal/sync.runtime_nanotime", "internal/sync.runtime_SemacquireMutex", "sync/atomic.AddInt32", "(*internal/sync.Mutex).Unlock", "internal/race.ReleaseMerge", "(*internal/sync.Mutex).unlockSlow", "internal/sync.fatal", "internal/sync.runtime_Semrelease"], unfollowed := true, recurses := true, apart := false }
def FnKeepTwiceIsOnceAndGivesBackEvenlySaid : Prop := fnKeepTwiceIsOnceAndGivesBackEvenlyRow.holds Try.pinned (OpenSpec.ofChange fnKeepTwiceIsOnceAndGivesBackEvenlySpec)

/-- ITS FALSE NEIGHBOUR: 'it returns false'. Refute it at one input. -/
def fnKeepTwiceIsOnceAndGivesBackEvenlyWrong : ChangeSpec := { name := "fnKeepTwiceIsOnceAndGivesBackEvenly", fn := fun _ => fun
  | [d1, d2, d3, d4] => { results := [.lit (.bool false)], args := [d1, d2, d3, d4] }
  | _ => none }
def FnKeepTwiceIsOnceAndGivesBackEvenlyWrongFalsely : Prop := fnKeepTwiceIsOnceAndGivesBackEvenlyRow.holds Try.pinned (OpenSpec.ofChange fnKeepTwiceIsOnceAndGivesBackEvenlyWrong)

/-- 'zzlaws_places_b1.FnVictimIsOldestHolderOfTheRichestClient': WHATEVER THE INPUT: true; the input reads as it did. -/
def fnVictimIsOldestHolderOfTheRichestClientSpec : ChangeSpec := { name := "fnVictimIsOldestHolderOfTheRichestClient", fn := fun _ => fun
  | [d1, d2, d3] => { results := [.lit (.bool true)], args := [d1, d2, d3] }
  | _ => none }
def fnVictimIsOldestHolderOfTheRichestClientRow : OpenClaim := { program := "qxb6618660a", sum := "878a2e890f5a80a14489978d7c27a598fead235d6a2895298b4f05da780d7185", func := "example.com/ready-to-result/ready-to-result/zzlaws_places_b1.FnVictimIsOldestHolderOfTheRichestClient", spec := "fnVictimIsOldestHolderOfTheRichestClient", inPlace := ["(*internal/sync.Mutex).Lock", "internal/race.Disable", "sync/atomic.CompareAndSwapInt32", "internal/race.Enable", "internal/race.Acquire", "(*internal/sync.Mutex).lockSlow", "internal/sync.runtime_canSpin", "internal/sync.runtime_doSpin", "internal/sync.throw", "internal/sync.runtime_nanotime", "internal/sync.runtime_SemacquireMutex", "sync/atomic.AddInt32", "(*internal/sync.Mutex).Unlock", "internal/race.ReleaseMerge", "(*internal/sync.Mutex).unlockSlow", "internal/sync.fatal", "internal/sync.runtime_Semrelease"], unfollowed := true, recurses := true, apart := false }
def FnVictimIsOldestHolderOfTheRichestClientSaid : Prop := fnVictimIsOldestHolderOfTheRichestClientRow.holds Try.pinned (OpenSpec.ofChange fnVictimIsOldestHolderOfTheRichestClientSpec)

/-- ITS FALSE NEIGHBOUR: 'it returns false'. Refute it at one input. -/
def fnVictimIsOldestHolderOfTheRichestClientWrong : ChangeSpec := { name := "fnVictimIsOldestHolderOfTheRichestClient", fn := fun _ => fun
  | [d1, d2, d3] => { results := [.lit (.bool false)], args := [d1, d2, d3] }
  | _ => none }
def FnVictimIsOldestHolderOfTheRichestClientWrongFalsely : Prop := fnVictimIsOldestHolderOfTheRichestClientRow.holds Try.pinned (OpenSpec.ofChange fnVictimIsOldestHolderOfTheRichestClientWrong)

/-- 'zzlaws_places_b1.FnVictimDrainEndsOpenThenTrimsRicherClients': WHATEVER THE INPUT: true; the input reads as it did. -/
def fnVictimDrainEndsOpenThenTrimsRicherClientsSpec : ChangeSpec := { name := "fnVictimDrainEndsOpenThenTrimsRicherClients", fn := fun _ => fun
  | [d1, d2, d3] => { results := [.lit (.bool true)], args := [d1, d2, d3] }
  | _ => none }
def fnVictimDrainEndsOpenThenTrimsRicherClientsRow : OpenClaim := { program := "qxb6618660a", sum := "878a2e890f5a80a14489978d7c27a598fead235d6a2895298b4f05da780d7185", func := "example.com/ready-to-result/ready-to-result/zzlaws_places_b1.FnVictimDrainEndsOpenThenTrimsRicherClients", spec := "fnVictimDrainEndsOpenThenTrimsRicherClients", inPlace := ["(*internal/sync.Mutex).Lock", "internal/race.Disable", "sync/atomic.CompareAndSwapInt32", "internal/race.Enable", "internal/race.Acquire", "(*internal/sync.Mutex).lockSlow", "internal/sync.runtime_canSpin", "internal/sync.runtime_doSpin", "internal/sync.throw", "internal/sync.runtime_nanotime", "internal/sync.runtime_SemacquireMutex", "sync/atomic.AddInt32", "(*internal/sync.Mutex).Unlock", "internal/race.ReleaseMerge", "(*internal/sync.Mutex).unlockSlow", "internal/sync.fatal", "internal/sync.runtime_Semrelease"], unfollowed := true, recurses := true, apart := false }
def FnVictimDrainEndsOpenThenTrimsRicherClientsSaid : Prop := fnVictimDrainEndsOpenThenTrimsRicherClientsRow.holds Try.pinned (OpenSpec.ofChange fnVictimDrainEndsOpenThenTrimsRicherClientsSpec)

/-- ITS FALSE NEIGHBOUR: 'it returns false'. Refute it at one input. -/
def fnVictimDrainEndsOpenThenTrimsRicherClientsWrong : ChangeSpec := { name := "fnVictimDrainEndsOpenThenTrimsRicherClients", fn := fun _ => fun
  | [d1, d2, d3] => { results := [.lit (.bool false)], args := [d1, d2, d3] }
  | _ => none }
def FnVictimDrainEndsOpenThenTrimsRicherClientsWrongFalsely : Prop := fnVictimDrainEndsOpenThenTrimsRicherClientsRow.holds Try.pinned (OpenSpec.ofChange fnVictimDrainEndsOpenThenTrimsRicherClientsWrong)

end Rows
end Go.Proofs.Qxb6618660a

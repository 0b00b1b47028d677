/-
  No cell of these rows narrows 'for every input' (looked for: loops, veiled, ifaces, maps, wideKeys, modest, calm, conditions, laid).
  DERIVED. THE GIVEN ROWS OF THIS SEAT. 5 by the template 'for every input the law returns true; each argument reads behind the call as it read before'; 0 by the template 'total and deterministic' (their statements: Qxb6604668aTotals.lean).
  GIVEN WITH THE SEED: the statements are not yours to turn. If you find one false, say at which input.
  Laid BY PROGRAM, IN A SANDBOX (cutbox-rows.mjs): the forced cells as the released guide's own fill.sh prints them over the translation 45a58e5aea41aa35… (all of the seat's roots in one cut). By AI agents, Wed Nov 11 2026. No macro, syntax, notation, axiom, sorry.
-/
import Derived.Test.Qxb6604668aChecked
import GoSem.Claim
import GoSem.ClaimJoined
import GoSem.ClaimMapViews
import Derived.JoinedTies
import Derived.KernelRfl
namespace Go.Proofs.Qxb6604668a
/- THE CELL 'sum', in the pinned program and in every row, IS THE sha256 OF THE DUMP (.gsa) THAT Qxb6604668aProg.lean LOADS. Nothing in Lean hashes anything: it is a label: what it is worth is what the hold of that sum in a sandbox is worth. -/
noncomputable def Try.pinned : Pinned := { name := "qxb6604668a", sum := "45a58e5aea41aa3518643ae11efaae968d918f200deb9766f9ab3c2ad5d68762", checked := Try.checked }
namespace Rows
def none {H : Type} : Left H := { results := [], args := [] }

/-- 'zzlaws_internal_cluster_b1.FnKeysOfInjective': WHATEVER THE INPUT: true; the input reads as it did. -/
def fnKeysOfInjectiveSpec : ChangeSpec := { name := "fnKeysOfInjective", fn := fun _ => fun
  | [d1, d2] => { results := [.lit (.bool true)], args := [d1, d2] }
  | _ => none }
def fnKeysOfInjectiveRow : OpenClaim := { program := "qxb6604668a", sum := "45a58e5aea41aa3518643ae11efaae968d918f200deb9766f9ab3c2ad5d68762", func := "example.com/tidework/tidework/zzlaws_internal_cluster_b1.FnKeysOfInjective", spec := "fnKeysOfInjective", apart := false }
def FnKeysOfInjectiveSaid : Prop := fnKeysOfInjectiveRow.holds Try.pinned (OpenSpec.ofChange fnKeysOfInjectiveSpec)

/-- ITS FALSE NEIGHBOUR: 'it returns false'. Refute it at one input. -/
def fnKeysOfInjectiveWrong : ChangeSpec := { name := "fnKeysOfInjective", fn := fun _ => fun
  | [d1, d2] => { results := [.lit (.bool false)], args := [d1, d2] }
  | _ => none }
def FnKeysOfInjectiveWrongFalsely : Prop := fnKeysOfInjectiveRow.holds Try.pinned (OpenSpec.ofChange fnKeysOfInjectiveWrong)

/-- 'zzlaws_internal_cluster_b1.FnHoldingsAtOneHoldingPerId': WHATEVER THE INPUT: true; the input reads as it did. -/
def fnHoldingsAtOneHoldingPerIdSpec : ChangeSpec := { name := "fnHoldingsAtOneHoldingPerId", fn := fun _ => fun
  | [d1, d2, d3, d4, d5] => { results := [.lit (.bool true)], args := [d1, d2, d3, d4, d5] }
  | _ => none }
def fnHoldingsAtOneHoldingPerIdRow : OpenClaim := { program := "qxb6604668a", sum := "45a58e5aea41aa3518643ae11efaae968d918f200deb9766f9ab3c2ad5d68762", func := "example.com/tidework/tidework/zzlaws_internal_cluster_b1.FnHoldingsAtOneHoldingPerId", spec := "fnHoldingsAtOneHoldingPerId", apart := false }
def FnHoldingsAtOneHoldingPerIdSaid : Prop := fnHoldingsAtOneHoldingPerIdRow.holds Try.pinned (OpenSpec.ofChange fnHoldingsAtOneHoldingPerIdSpec)

/-- ITS FALSE NEIGHBOUR: 'it returns false'. Refute it at one input. -/
def fnHoldingsAtOneHoldingPerIdWrong : ChangeSpec := { name := "fnHoldingsAtOneHoldingPerId", fn := fun _ => fun
  | [d1, d2, d3, d4, d5] => { results := [.lit (.bool false)], args := [d1, d2, d3, d4, d5] }
  | _ => none }
def FnHoldingsAtOneHoldingPerIdWrongFalsely : Prop := fnHoldingsAtOneHoldingPerIdRow.holds Try.pinned (OpenSpec.ofChange fnHoldingsAtOneHoldingPerIdWrong)

/-- 'zzlaws_internal_cluster_b1.FnHoldingsAtKeepsRecordedHolding': WHATEVER THE INPUT: true; the input reads as it did. -/
def fnHoldingsAtKeepsRecordedHoldingSpec : ChangeSpec := { name := "fnHoldingsAtKeepsRecordedHolding", fn := fun _ => fun
  | [d1, d2, d3, d4, d5, d6, d7, d8, d9] => { results := [.lit (.bool true)], args := [d1, d2, d3, d4, d5, d6, d7, d8, d9] }
  | _ => none }
def fnHoldingsAtKeepsRecordedHoldingRow : OpenClaim := { program := "qxb6604668a", sum := "45a58e5aea41aa3518643ae11efaae968d918f200deb9766f9ab3c2ad5d68762", func := "example.com/tidework/tidework/zzlaws_internal_cluster_b1.FnHoldingsAtKeepsRecordedHolding", spec := "fnHoldingsAtKeepsRecordedHolding", apart := false }
def FnHoldingsAtKeepsRecordedHoldingSaid : Prop := fnHoldingsAtKeepsRecordedHoldingRow.holds Try.pinned (OpenSpec.ofChange fnHoldingsAtKeepsRecordedHoldingSpec)

/-- ITS FALSE NEIGHBOUR: 'it returns false'. Refute it at one input. -/
def fnHoldingsAtKeepsRecordedHoldingWrong : ChangeSpec := { name := "fnHoldingsAtKeepsRecordedHolding", fn := fun _ => fun
  | [d1, d2, d3, d4, d5, d6, d7, d8, d9] => { results := [.lit (.bool false)], args := [d1, d2, d3, d4, d5, d6, d7, d8, d9] }
  | _ => none }
def FnHoldingsAtKeepsRecordedHoldingWrongFalsely : Prop := fnHoldingsAtKeepsRecordedHoldingRow.holds Try.pinned (OpenSpec.ofChange fnHoldingsAtKeepsRecordedHoldingWrong)

/-- 'zzlaws_internal_cluster_b1.FnTakeTakerPicksLeastGivenThenName': WHATEVER THE INPUT: true; the input reads as it did. -/
def fnTakeTakerPicksLeastGivenThenNameSpec : ChangeSpec := { name := "fnTakeTakerPicksLeastGivenThenName", fn := fun _ => fun
  | [d] => { results := [.lit (.bool true)], args := [d] }
  | _ => none }
def fnTakeTakerPicksLeastGivenThenNameRow : OpenClaim := { program := "qxb6604668a", sum := "45a58e5aea41aa3518643ae11efaae968d918f200deb9766f9ab3c2ad5d68762", func := "example.com/tidework/tidework/zzlaws_internal_cluster_b1.FnTakeTakerPicksLeastGivenThenName", spec := "fnTakeTakerPicksLeastGivenThenName", inPlace := ["sync/atomic.StoreInt32", "(*internal/sync.Mutex).Lock", "internal/race.Disable", "sync/atomic.CompareAndSwapInt32", "internal/race.Enable", "internal/race.Acquire", "(*internal/sync.Mutex).lockSlow", "internal/sync.runtime_canSpin", "internal/sync.runtime_doSpin", "internal/sync.throw", "internal/sync.runtime_nanotime", "internal/sync.runtime_SemacquireMutex", "sync/atomic.AddInt32", "(*internal/sync.Mutex).Unlock", "internal/race.ReleaseMerge", "(*internal/sync.Mutex).unlockSlow", "internal/sync.fatal", "internal/sync.runtime_Semrelease"], apart := false }
def FnTakeTakerPicksLeastGivenThenNameSaid : Prop := fnTakeTakerPicksLeastGivenThenNameRow.holds Try.pinned (OpenSpec.ofChange fnTakeTakerPicksLeastGivenThenNameSpec)

/-- ITS FALSE NEIGHBOUR: 'it returns false'. Refute it at one input. -/
def fnTakeTakerPicksLeastGivenThenNameWrong : ChangeSpec := { name := "fnTakeTakerPicksLeastGivenThenName", fn := fun _ => fun
  | [d] => { results := [.lit (.bool false)], args := [d] }
  | _ => none }
def FnTakeTakerPicksLeastGivenThenNameWrongFalsely : Prop := fnTakeTakerPicksLeastGivenThenNameRow.holds Try.pinned (OpenSpec.ofChange fnTakeTakerPicksLeastGivenThenNameWrong)

/-- 'zzlaws_internal_cluster_b1.FnTakeTakerRoundRobin': WHATEVER THE INPUT: true; the input reads as it did. -/
def fnTakeTakerRoundRobinSpec : ChangeSpec := { name := "fnTakeTakerRoundRobin", fn := fun _ => fun
  | [d1, d2] => { results := [.lit (.bool true)], args := [d1, d2] }
  | _ => none }
def fnTakeTakerRoundRobinRow : OpenClaim := { program := "qxb6604668a", sum := "45a58e5aea41aa3518643ae11efaae968d918f200deb9766f9ab3c2ad5d68762", func := "example.com/tidework/tidework/zzlaws_internal_cluster_b1.FnTakeTakerRoundRobin", spec := "fnTakeTakerRoundRobin", inPlace := ["sync/atomic.StoreInt32", "(*internal/sync.Mutex).Lock", "internal/race.Disable", "sync/atomic.CompareAndSwapInt32", "internal/race.Enable", "internal/race.Acquire", "(*internal/sync.Mutex).lockSlow", "internal/sync.runtime_canSpin", "internal/sync.runtime_doSpin", "internal/sync.throw", "internal/sync.runtime_nanotime", "internal/sync.runtime_SemacquireMutex", "sync/atomic.AddInt32", "(*internal/sync.Mutex).Unlock", "internal/race.ReleaseMerge", "(*internal/sync.Mutex).unlockSlow", "internal/sync.fatal", "internal/sync.runtime_Semrelease"], apart := false }
def FnTakeTakerRoundRobinSaid : Prop := fnTakeTakerRoundRobinRow.holds Try.pinned (OpenSpec.ofChange fnTakeTakerRoundRobinSpec)

/-- ITS FALSE NEIGHBOUR: 'it returns false'. Refute it at one input. -/
def fnTakeTakerRoundRobinWrong : ChangeSpec := { name := "fnTakeTakerRoundRobin", fn := fun _ => fun
  | [d1, d2] => { results := [.lit (.bool false)], args := [d1, d2] }
  | _ => none }
def FnTakeTakerRoundRobinWrongFalsely : Prop := fnTakeTakerRoundRobinRow.holds Try.pinned (OpenSpec.ofChange fnTakeTakerRoundRobinWrong)

end Rows
end Go.Proofs.Qxb6604668a

/-
  No cell of these rows narrows 'for every input' (looked for: loops, veiled, ifaces, maps, wideKeys, modest, calm, conditions, laid).
  DERIVED. THE GIVEN ROWS OF THIS SEAT. 4 by the template 'for every input the law returns true; each argument reads behind the call as it read before'; 0 by the template 'total and deterministic' (their statements: Qxb6608829aTotals.lean).
  GIVEN WITH THE SEED: the statements are not yours to turn. If you find one false, say at which input.
  Laid BY PROGRAM, IN A SANDBOX (cutbox-rows.mjs): the forced cells as the released guide's own fill.sh prints them over the translation e801212fd4755d78… (all of the seat's roots in one cut). By AI agents, Wed Nov 11 2026. No macro, syntax, notation, axiom, sorry.
-/
import Derived.Test.Qxb6608829aChecked
import GoSem.Claim
import GoSem.ClaimJoined
import GoSem.ClaimMapViews
import Derived.JoinedTies
import Derived.KernelRfl
namespace Go.Proofs.Qxb6608829a
/- THE CELL 'sum', in the pinned program and in every row, IS THE sha256 OF THE DUMP (.gsa) THAT Qxb6608829aProg.lean LOADS. Nothing in Lean hashes anything: it is a label: what it is worth is what the hold of that sum in a sandbox is worth. -/
noncomputable def Try.pinned : Pinned := { name := "qxb6608829a", sum := "e801212fd4755d786b05936dbf6c6f85004a62aeea9c6e62ffc0eed6c91c50a8", checked := Try.checked }
namespace Rows
def none {H : Type} : Left H := { results := [], args := [] }

/-- 'zzlaws_root_b1.FnCmpFromByDistanceFromOrigin': WHATEVER THE INPUT: true; the input reads as it did. -/
def fnCmpFromByDistanceFromOriginSpec : ChangeSpec := { name := "fnCmpFromByDistanceFromOrigin", fn := fun _ => fun
  | [d1, d2, d3] => { results := [.lit (.bool true)], args := [d1, d2, d3] }
  | _ => none }
def fnCmpFromByDistanceFromOriginRow : OpenClaim := { program := "qxb6608829a", sum := "e801212fd4755d786b05936dbf6c6f85004a62aeea9c6e62ffc0eed6c91c50a8", func := "example.com/ringfinger/ringfinger/zzlaws_root_b1.FnCmpFromByDistanceFromOrigin", spec := "fnCmpFromByDistanceFromOrigin", inPlace := ["internal/bytealg.Compare"], apart := false }
def FnCmpFromByDistanceFromOriginSaid : Prop := fnCmpFromByDistanceFromOriginRow.holds Try.pinned (OpenSpec.ofChange fnCmpFromByDistanceFromOriginSpec)

/-- ITS FALSE NEIGHBOUR: 'it returns false'. Refute it at one input. -/
def fnCmpFromByDistanceFromOriginWrong : ChangeSpec := { name := "fnCmpFromByDistanceFromOrigin", fn := fun _ => fun
  | [d1, d2, d3] => { results := [.lit (.bool false)], args := [d1, d2, d3] }
  | _ => none }
def FnCmpFromByDistanceFromOriginWrongFalsely : Prop := fnCmpFromByDistanceFromOriginRow.holds Try.pinned (OpenSpec.ofChange fnCmpFromByDistanceFromOriginWrong)

/-- 'zzlaws_root_b1.FnCmpFromOriginLastSuccessorFirst': WHATEVER THE INPUT: true; the input reads as it did. -/
def fnCmpFromOriginLastSuccessorFirstSpec : ChangeSpec := { name := "fnCmpFromOriginLastSuccessorFirst", fn := fun _ => fun
  | [d1, d2] => { results := [.lit (.bool true)], args := [d1, d2] }
  | _ => none }
def fnCmpFromOriginLastSuccessorFirstRow : OpenClaim := { program := "qxb6608829a", sum := "e801212fd4755d786b05936dbf6c6f85004a62aeea9c6e62ffc0eed6c91c50a8", func := "example.com/ringfinger/ringfinger/zzlaws_root_b1.FnCmpFromOriginLastSuccessorFirst", spec := "fnCmpFromOriginLastSuccessorFirst", inPlace := ["internal/bytealg.Compare"], apart := false }
def FnCmpFromOriginLastSuccessorFirstSaid : Prop := fnCmpFromOriginLastSuccessorFirstRow.holds Try.pinned (OpenSpec.ofChange fnCmpFromOriginLastSuccessorFirstSpec)

/-- ITS FALSE NEIGHBOUR: 'it returns false'. Refute it at one input. -/
def fnCmpFromOriginLastSuccessorFirstWrong : ChangeSpec := { name := "fnCmpFromOriginLastSuccessorFirst", fn := fun _ => fun
  | [d1, d2] => { results := [.lit (.bool false)], args := [d1, d2] }
  | _ => none }
def FnCmpFromOriginLastSuccessorFirstWrongFalsely : Prop := fnCmpFromOriginLastSuccessorFirstRow.holds Try.pinned (OpenSpec.ofChange fnCmpFromOriginLastSuccessorFirstWrong)

/-- 'zzlaws_root_b1.FnShareTellerStopZeroesEveryPoint': WHATEVER THE INPUT: true; the input reads as it did. -/
def fnShareTellerStopZeroesEveryPointSpec : ChangeSpec := { name := "fnShareTellerStopZeroesEveryPoint", fn := fun _ => fun
  | [d] => { results := [.lit (.bool true)], args := [d] }
  | _ => none }
def fnShareTellerStopZeroesEveryPointRow : OpenClaim := { program := "qxb6608829a", sum := "e801212fd4755d786b05936dbf6c6f85004a62aeea9c6e62ffc0eed6c91c50a8", func := "example.com/ringfinger/ringfinger/zzlaws_root_b1.FnShareTellerStopZeroesEveryPoint", spec := "fnShareTellerStopZeroesEveryPoint", inPlace := ["(*internal/sync.Mutex).Lock", "internal/race.Disable", "sync/atomic.CompareAndSwapInt32", "internal/race.Enable", "internal/race.Acquire", "(*internal/sync.Mutex).lockSlow", "internal/sync.runtime_canSpin", "internal/sync.runtime_doSpin", "internal/sync.throw", "internal/sync.runtime_nanotime", "internal/sync.runtime_SemacquireMutex", "sync/atomic.AddInt32", "(*internal/sync.Mutex).Unlock", "internal/race.ReleaseMerge", "(*internal/sync.Mutex).unlockSlow", "internal/sync.fatal", "internal/sync.runtime_Semrelease"], apart := false }
def FnShareTellerStopZeroesEveryPointSaid : Prop := fnShareTellerStopZeroesEveryPointRow.holds Try.pinned (OpenSpec.ofChange fnShareTellerStopZeroesEveryPointSpec)

/-- ITS FALSE NEIGHBOUR: 'it returns false'. Refute it at one input. -/
def fnShareTellerStopZeroesEveryPointWrong : ChangeSpec := { name := "fnShareTellerStopZeroesEveryPoint", fn := fun _ => fun
  | [d] => { results := [.lit (.bool false)], args := [d] }
  | _ => none }
def FnShareTellerStopZeroesEveryPointWrongFalsely : Prop := fnShareTellerStopZeroesEveryPointRow.holds Try.pinned (OpenSpec.ofChange fnShareTellerStopZeroesEveryPointWrong)

/-- 'zzlaws_root_b1.FnShareTellerStopOnceOnly': WHATEVER THE INPUT: true; the input reads as it did. -/
def fnShareTellerStopOnceOnlySpec : ChangeSpec := { name := "fnShareTellerStopOnceOnly", fn := fun _ => fun
  | [d] => { results := [.lit (.bool true)], args := [d] }
  | _ => none }
def fnShareTellerStopOnceOnlyRow : OpenClaim := { program := "qxb6608829a", sum := "e801212fd4755d786b05936dbf6c6f85004a62aeea9c6e62ffc0eed6c91c50a8", func := "example.com/ringfinger/ringfinger/zzlaws_root_b1.FnShareTellerStopOnceOnly", spec := "fnShareTellerStopOnceOnly", inPlace := ["(*internal/sync.Mutex).Lock", "internal/race.Disable", "sync/atomic.CompareAndSwapInt32", "internal/race.Enable", "internal/race.Acquire", "(*internal/sync.Mutex).lockSlow", "internal/sync.runtime_canSpin", "internal/sync.runtime_doSpin", "internal/sync.throw", "internal/sync.runtime_nanotime", "internal/sync.runtime_SemacquireMutex", "sync/atomic.AddInt32", "(*internal/sync.Mutex).Unlock", "internal/race.ReleaseMerge", "(*internal/sync.Mutex).unlockSlow", "internal/sync.fatal", "internal/sync.runtime_Semrelease"], apart := false }
def FnShareTellerStopOnceOnlySaid : Prop := fnShareTellerStopOnceOnlyRow.holds Try.pinned (OpenSpec.ofChange fnShareTellerStopOnceOnlySpec)

/-- ITS FALSE NEIGHBOUR: 'it returns false'. Refute it at one input. -/
def fnShareTellerStopOnceOnlyWrong : ChangeSpec := { name := "fnShareTellerStopOnceOnly", fn := fun _ => fun
  | [d] => { results := [.lit (.bool false)], args := [d] }
  | _ => none }
def FnShareTellerStopOnceOnlyWrongFalsely : Prop := fnShareTellerStopOnceOnlyRow.holds Try.pinned (OpenSpec.ofChange fnShareTellerStopOnceOnlyWrong)

end Rows
end Go.Proofs.Qxb6608829a

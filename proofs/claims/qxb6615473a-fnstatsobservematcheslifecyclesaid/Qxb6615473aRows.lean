/-
  No cell of these rows narrows 'for every input' (looked for: loops, veiled, ifaces, maps, wideKeys, modest, calm, conditions, laid).
  DERIVED. THE GIVEN ROWS OF THIS SEAT. 4 by the template 'for every input the law returns true; each argument reads behind the call as it read before'; 0 by the template 'total and deterministic' (their statements: Qxb6615473aTotals.lean).
  GIVEN WITH THE SEED: the statements are not yours to turn. If you find one false, say at which input.
  Laid BY PROGRAM, IN A SANDBOX (cutbox-rows.mjs): the forced cells as the released guide's own fill.sh prints them over the translation 5c32698f3cdb62e7… (all of the seat's roots in one cut). By AI agents, Wed Nov 11 2026. No macro, syntax, notation, axiom, sorry.
-/
import Derived.Test.Qxb6615473aChecked
import GoSem.Claim
import GoSem.ClaimJoined
import GoSem.ClaimMapViews
import Derived.JoinedTies
import Derived.KernelRfl
namespace Go.Proofs.Qxb6615473a
/- THE CELL 'sum', in the pinned program and in every row, IS THE sha256 OF THE DUMP (.gsa) THAT Qxb6615473aProg.lean LOADS. Nothing in Lean hashes anything: it is a label: what it is worth is what the hold of that sum in a sandbox is worth. -/
noncomputable def Try.pinned : Pinned := { name := "qxb6615473a", sum := "5c32698f3cdb62e70c7fff504e38bc32ba670e744575ce170747a1a4d6f8194c", checked := Try.checked }
namespace Rows
def none {H : Type} : Left H := { results := [], args := [] }

/-- 'zzlaws_root_b1.FnMillisOptionSetGetRoundTrip': WHATEVER THE INPUT: true; the input reads as it did. -/
def fnMillisOptionSetGetRoundTripSpec : ChangeSpec := { name := "fnMillisOptionSetGetRoundTrip", fn := fun _ => fun
  | [d1, d2, d3] => { results := [.lit (.bool true)], args := [d1, d2, d3] }
  | _ => none }
def fnMillisOptionSetGetRoundTripRow : OpenClaim := { program := "qxb6615473a", sum := "5c32698f3cdb62e70c7fff504e38bc32ba670e744575ce170747a1a4d6f8194c", func := "example.com/lecon/lecon/zzlaws_root_b1.FnMillisOptionSetGetRoundTrip", spec := "fnMillisOptionSetGetRoundTrip", unfollowed := true, recurses := true, apart := false }
def FnMillisOptionSetGetRoundTripSaid : Prop := fnMillisOptionSetGetRoundTripRow.holds Try.pinned (OpenSpec.ofChange fnMillisOptionSetGetRoundTripSpec)

/-- ITS FALSE NEIGHBOUR: 'it returns false'. Refute it at one input. -/
def fnMillisOptionSetGetRoundTripWrong : ChangeSpec := { name := "fnMillisOptionSetGetRoundTrip", fn := fun _ => fun
  | [d1, d2, d3] => { results := [.lit (.bool false)], args := [d1, d2, d3] }
  | _ => none }
def FnMillisOptionSetGetRoundTripWrongFalsely : Prop := fnMillisOptionSetGetRoundTripRow.holds Try.pinned (OpenSpec.ofChange fnMillisOptionSetGetRoundTripWrong)

/-- 'zzlaws_root_b1.FnMillisOptionGetIsWholeMillisTowardZero': WHATEVER THE INPUT: true; the input reads as it did. -/
def fnMillisOptionGetIsWholeMillisTowardZeroSpec : ChangeSpec := { name := "fnMillisOptionGetIsWholeMillisTowardZero", fn := fun _ => fun
  | [d1, d2] => { results := [.lit (.bool true)], args := [d1, d2] }
  | _ => none }
def fnMillisOptionGetIsWholeMillisTowardZeroRow : OpenClaim := { program := "qxb6615473a", sum := "5c32698f3cdb62e70c7fff504e38bc32ba670e744575ce170747a1a4d6f8194c", func := "example.com/lecon/lecon/zzlaws_root_b1.FnMillisOptionGetIsWholeMillisTowardZero", spec := "fnMillisOptionGetIsWholeMillisTowardZero", unfollowed := true, recurses := true, apart := false }
def FnMillisOptionGetIsWholeMillisTowardZeroSaid : Prop := fnMillisOptionGetIsWholeMillisTowardZeroRow.holds Try.pinned (OpenSpec.ofChange fnMillisOptionGetIsWholeMillisTowardZeroSpec)

/-- ITS FALSE NEIGHBOUR: 'it returns false'. Refute it at one input. -/
def fnMillisOptionGetIsWholeMillisTowardZeroWrong : ChangeSpec := { name := "fnMillisOptionGetIsWholeMillisTowardZero", fn := fun _ => fun
  | [d1, d2] => { results := [.lit (.bool false)], args := [d1, d2] }
  | _ => none }
def FnMillisOptionGetIsWholeMillisTowardZeroWrongFalsely : Prop := fnMillisOptionGetIsWholeMillisTowardZeroRow.holds Try.pinned (OpenSpec.ofChange fnMillisOptionGetIsWholeMillisTowardZeroWrong)

/-- 'zzlaws_root_b1.FnStatsObserveMatchesLifecycle': WHATEVER THE INPUT: true; the input reads as it did. -/
def fnStatsObserveMatchesLifecycleSpec : ChangeSpec := { name := "fnStatsObserveMatchesLifecycle", fn := fun _ => fun
  | [d] => { results := [.lit (.bool true)], args := [d] }
  | _ => none }
def fnStatsObserveMatchesLifecycleRow : OpenClaim := { program := "qxb6615473a", sum := "5c32698f3cdb62e70c7fff504e38bc32ba670e744575ce170747a1a4d6f8194c", func := "example.com/lecon/lecon/zzlaws_root_b1.FnStatsObserveMatchesLifecycle", spec := "fnStatsObserveMatchesLifecycle", inPlace := ["(*internal/sync.Mutex).Lock", "internal/race.Disable", "sync/atomic.CompareAndSwapInt32", "internal/race.Enable", "internal/race.Acquire", "(*internal/sync.Mutex).lockSlow", "internal/sync.runtime_canSpin", "internal/sync.runtime_doSpin", "internal/sync.throw", "internal/sync.runtime_nanotime", "internal/sync.runtime_SemacquireMutex", "sync/atomic.AddInt32", "(*internal/sync.Mutex).Unlock", "internal/race.ReleaseMerge", "(*internal/sync.Mutex).unlockSlow", "internal/sync.fatal", "internal/sync.runtime_Semrelease"], apart := false }
def FnStatsObserveMatchesLifecycleSaid : Prop := fnStatsObserveMatchesLifecycleRow.holds Try.pinned (OpenSpec.ofChange fnStatsObserveMatchesLifecycleSpec)

/-- ITS FALSE NEIGHBOUR: 'it returns false'. Refute it at one input. -/
def fnStatsObserveMatchesLifecycleWrong : ChangeSpec := { name := "fnStatsObserveMatchesLifecycle", fn := fun _ => fun
  | [d] => { results := [.lit (.bool false)], args := [d] }
  | _ => none }
def FnStatsObserveMatchesLifecycleWrongFalsely : Prop := fnStatsObserveMatchesLifecycleRow.holds Try.pinned (OpenSpec.ofChange fnStatsObserveMatchesLifecycleWrong)

/-- 'zzlaws_root_b1.FnStatsObserveWaitHistogram': WHATEVER THE INPUT: true; the input reads as it did. -/
def fnStatsObserveWaitHistogramSpec : ChangeSpec := { name := "fnStatsObserveWaitHistogram", fn := fun _ => fun
  | [d] => { results := [.lit (.bool true)], args := [d] }
  | _ => none }
def fnStatsObserveWaitHistogramRow : OpenClaim := { program := "qxb6615473a", sum := "5c32698f3cdb62e70c7fff504e38bc32ba670e744575ce170747a1a4d6f8194c", func := "example.com/lecon/lecon/zzlaws_root_b1.FnStatsObserveWaitHistogram", spec := "fnStatsObserveWaitHistogram", inPlace := ["(*internal/sync.Mutex).Lock", "internal/race.Disable", "sync/atomic.CompareAndSwapInt32", "internal/race.Enable", "internal/race.Acquire", "(*internal/sync.Mutex).lockSlow", "internal/sync.runtime_canSpin", "internal/sync.runtime_doSpin", "internal/sync.throw", "internal/sync.runtime_nanotime", "internal/sync.runtime_SemacquireMutex", "sync/atomic.AddInt32", "(*internal/sync.Mutex).Unlock", "internal/race.ReleaseMerge", "(*internal/sync.Mutex).unlockSlow", "internal/sync.fatal", "internal/sync.runtime_Semrelease"], apart := false }
def FnStatsObserveWaitHistogramSaid : Prop := fnStatsObserveWaitHistogramRow.holds Try.pinned (OpenSpec.ofChange fnStatsObserveWaitHistogramSpec)

/-- ITS FALSE NEIGHBOUR: 'it returns false'. Refute it at one input. -/
def fnStatsObserveWaitHistogramWrong : ChangeSpec := { name := "fnStatsObserveWaitHistogram", fn := fun _ => fun
  | [d] => { results := [.lit (.bool false)], args := [d] }
  | _ => none }
def FnStatsObserveWaitHistogramWrongFalsely : Prop := fnStatsObserveWaitHistogramRow.holds Try.pinned (OpenSpec.ofChange fnStatsObserveWaitHistogramWrong)

end Rows
end Go.Proofs.Qxb6615473a

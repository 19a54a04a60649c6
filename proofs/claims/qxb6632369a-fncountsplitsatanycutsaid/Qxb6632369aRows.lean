/-
  No cell of these rows narrows 'for every input' (looked for: loops, veiled, ifaces, maps, wideKeys, modest, calm, conditions, laid).
  DERIVED. THE GIVEN ROWS OF THIS SEAT. 2 by the template 'for every input the law returns true; each argument reads behind the call as it read before'; 0 by the template 'total and deterministic' (their statements: Qxb6632369aTotals.lean).
  GIVEN WITH THE SEED: the statements are not yours to turn. If you find one false, say at which input.
  Laid BY PROGRAM, IN A SANDBOX (cutbox-rows.mjs): the forced cells as the released guide's own fill.sh prints them over the translation 9a58746343702327… (all of the seat's roots in one cut). By AI agents, Wed Nov 11 2026. No macro, syntax, notation, axiom, sorry.
-/
import Derived.Test.Qxb6632369aChecked
import GoSem.Claim
import GoSem.ClaimJoined
import GoSem.ClaimMapViews
import Derived.JoinedTies
import Derived.KernelRfl
namespace Go.Proofs.Qxb6632369a
/- THE CELL 'sum', in the pinned program and in every row, IS THE sha256 OF THE DUMP (.gsa) THAT Qxb6632369aProg.lean LOADS. Nothing in Lean hashes anything: it is a label: what it is worth is what the hold of that sum in a sandbox is worth. -/
noncomputable def Try.pinned : Pinned := { name := "qxb6632369a", sum := "9a58746343702327842f1c8d69dcfad4adaeb06422b67cec6bc99e7fcd4e720b", checked := Try.checked }
namespace Rows
def none {H : Type} : Left H := { results := [], args := [] }

/-- 'zzlaws_internal_metrics_b1.FnCountRisesByWhatOneBucketGains': WHATEVER THE INPUT: true; the input reads as it did. -/
def fnCountRisesByWhatOneBucketGainsSpec : ChangeSpec := { name := "fnCountRisesByWhatOneBucketGains", fn := fun _ => fun
  | [d1, d2, d3, d4, d5] => { results := [.lit (.bool true)], args := [d1, d2, d3, d4, d5] }
  | _ => none }
def fnCountRisesByWhatOneBucketGainsRow : OpenClaim := { program := "qxb6632369a", sum := "9a58746343702327842f1c8d69dcfad4adaeb06422b67cec6bc99e7fcd4e720b", func := "example.com/holdline/holdline/zzlaws_internal_metrics_b1.FnCountRisesByWhatOneBucketGains", spec := "fnCountRisesByWhatOneBucketGains", inPlace := ["(*internal/sync.Mutex).Lock", "internal/race.Disable", "sync/atomic.CompareAndSwapInt32", "internal/race.Enable", "internal/race.Acquire", "(*internal/sync.Mutex).lockSlow", "internal/sync.runtime_canSpin", "internal/sync.runtime_doSpin", "internal/sync.throw", "internal/sync.runtime_nanotime", "internal/sync.runtime_SemacquireMutex", "sync/atomic.AddInt32", "(*internal/sync.Mutex).Unlock", "internal/race.ReleaseMerge", "(*internal/sync.Mutex).unlockSlow", "internal/sync.fatal", "internal/sync.runtime_Semrelease"], apart := false }
def FnCountRisesByWhatOneBucketGainsSaid : Prop := fnCountRisesByWhatOneBucketGainsRow.holds Try.pinned (OpenSpec.ofChange fnCountRisesByWhatOneBucketGainsSpec)

/-- ITS FALSE NEIGHBOUR: 'it returns false'. Refute it at one input. -/
def fnCountRisesByWhatOneBucketGainsWrong : ChangeSpec := { name := "fnCountRisesByWhatOneBucketGains", fn := fun _ => fun
  | [d1, d2, d3, d4, d5] => { results := [.lit (.bool false)], args := [d1, d2, d3, d4, d5] }
  | _ => none }
def FnCountRisesByWhatOneBucketGainsWrongFalsely : Prop := fnCountRisesByWhatOneBucketGainsRow.holds Try.pinned (OpenSpec.ofChange fnCountRisesByWhatOneBucketGainsWrong)

/-- 'zzlaws_internal_metrics_b1.FnCountSplitsAtAnyCut': WHATEVER THE INPUT: true; the input reads as it did. -/
def fnCountSplitsAtAnyCutSpec : ChangeSpec := { name := "fnCountSplitsAtAnyCut", fn := fun _ => fun
  | [d1, d2, d3, d4] => { results := [.lit (.bool true)], args := [d1, d2, d3, d4] }
  | _ => none }
def fnCountSplitsAtAnyCutRow : OpenClaim := { program := "qxb6632369a", sum := "9a58746343702327842f1c8d69dcfad4adaeb06422b67cec6bc99e7fcd4e720b", func := "example.com/holdline/holdline/zzlaws_internal_metrics_b1.FnCountSplitsAtAnyCut", spec := "fnCountSplitsAtAnyCut", inPlace := ["(*internal/sync.Mutex).Lock", "internal/race.Disable", "sync/atomic.CompareAndSwapInt32", "internal/race.Enable", "internal/race.Acquire", "(*internal/sync.Mutex).lockSlow", "internal/sync.runtime_canSpin", "internal/sync.runtime_doSpin", "internal/sync.throw", "internal/sync.runtime_nanotime", "internal/sync.runtime_SemacquireMutex", "sync/atomic.AddInt32", "(*internal/sync.Mutex).Unlock", "internal/race.ReleaseMerge", "(*internal/sync.Mutex).unlockSlow", "internal/sync.fatal", "internal/sync.runtime_Semrelease"], apart := false }
def FnCountSplitsAtAnyCutSaid : Prop := fnCountSplitsAtAnyCutRow.holds Try.pinned (OpenSpec.ofChange fnCountSplitsAtAnyCutSpec)

/-- ITS FALSE NEIGHBOUR: 'it returns false'. Refute it at one input. -/
def fnCountSplitsAtAnyCutWrong : ChangeSpec := { name := "fnCountSplitsAtAnyCut", fn := fun _ => fun
  | [d1, d2, d3, d4] => { results := [.lit (.bool false)], args := [d1, d2, d3, d4] }
  | _ => none }
def FnCountSplitsAtAnyCutWrongFalsely : Prop := fnCountSplitsAtAnyCutRow.holds Try.pinned (OpenSpec.ofChange fnCountSplitsAtAnyCutWrong)

end Rows
end Go.Proofs.Qxb6632369a

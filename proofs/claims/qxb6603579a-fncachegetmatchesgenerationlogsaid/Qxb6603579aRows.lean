/-
  No cell of these rows narrows 'for every input' (looked for: loops, veiled, ifaces, maps, wideKeys, modest, calm, conditions, laid).
  DERIVED. THE GIVEN ROWS OF THIS SEAT. 2 by the template 'for every input the law returns true; each argument reads behind the call as it read before'; 0 by the template 'total and deterministic' (their statements: Qxb6603579aTotals.lean).
  GIVEN WITH THE SEED: the statements are not yours to turn. If you find one false, say at which input.
  Laid BY PROGRAM, IN A SANDBOX (cutbox-rows.mjs): the forced cells as the released guide's own fill.sh prints them over the translation 6f8a8993b784054e… (all of the seat's roots in one cut). By AI agents, Wed Nov 11 2026. No macro, syntax, notation, axiom, sorry.
-/
import Derived.Test.Qxb6603579aChecked
import GoSem.Claim
import GoSem.ClaimJoined
import GoSem.ClaimMapViews
import Derived.JoinedTies
import Derived.KernelRfl
namespace Go.Proofs.Qxb6603579a
/- THE CELL 'sum', in the pinned program and in every row, IS THE sha256 OF THE DUMP (.gsa) THAT Qxb6603579aProg.lean LOADS. Nothing in Lean hashes anything: it is a label: what it is worth is what the hold of that sum in a sandbox is worth. -/
noncomputable def Try.pinned : Pinned := { name := "qxb6603579a", sum := "6f8a8993b784054e12b5dbba434b580abf86786ec7737d37ca9df1a822db6bea", checked := Try.checked }
namespace Rows
def none {H : Type} : Left H := { results := [], args := [] }

/-- 'zzlaws_pkg_tokens_b1.FnCacheGetMatchesGenerationLog': WHATEVER THE INPUT: true; the input reads as it did. -/
def fnCacheGetMatchesGenerationLogSpec : ChangeSpec := { name := "fnCacheGetMatchesGenerationLog", fn := fun _ => fun
  | [d1, d2, d3, d4] => { results := [.lit (.bool true)], args := [d1, d2, d3, d4] }
  | _ => none }
def fnCacheGetMatchesGenerationLogRow : OpenClaim := { program := "qxb6603579a", sum := "6f8a8993b784054e12b5dbba434b580abf86786ec7737d37ca9df1a822db6bea", func := "example.com/marshal/marshal/zzlaws_pkg_tokens_b1.FnCacheGetMatchesGenerationLog", spec := "fnCacheGetMatchesGenerationLog", inPlace := ["(*internal/sync.Mutex).Lock", "internal/race.Disable", "sync/atomic.CompareAndSwapInt32", "internal/race.Enable", "internal/race.Acquire", "(*internal/sync.Mutex).lockSlow", "internal/sync.runtime_canSpin", "internal/sync.runtime_doSpin", "internal/sync.throw", "internal/sync.runtime_nanotime", "internal/sync.runtime_SemacquireMutex", "sync/atomic.AddInt32", "(*internal/sync.Mutex).Unlock", "internal/race.ReleaseMerge", "(*internal/sync.Mutex).unlockSlow", "internal/sync.fatal", "internal/sync.runtime_Semrelease"], apart := false }
def FnCacheGetMatchesGenerationLogSaid : Prop := fnCacheGetMatchesGenerationLogRow.holds Try.pinned (OpenSpec.ofChange fnCacheGetMatchesGenerationLogSpec)

/-- ITS FALSE NEIGHBOUR: 'it returns false'. Refute it at one input. -/
def fnCacheGetMatchesGenerationLogWrong : ChangeSpec := { name := "fnCacheGetMatchesGenerationLog", fn := fun _ => fun
  | [d1, d2, d3, d4] => { results := [.lit (.bool false)], args := [d1, d2, d3, d4] }
  | _ => none }
def FnCacheGetMatchesGenerationLogWrongFalsely : Prop := fnCacheGetMatchesGenerationLogRow.holds Try.pinned (OpenSpec.ofChange fnCacheGetMatchesGenerationLogWrong)

/-- 'zzlaws_pkg_tokens_b1.FnCacheGetKeepsRecentToken': WHATEVER THE INPUT: true; the input reads as it did. -/
def fnCacheGetKeepsRecentTokenSpec : ChangeSpec := { name := "fnCacheGetKeepsRecentToken", fn := fun _ => fun
  | [d1, d2, d3, d4, d5] => { results := [.lit (.bool true)], args := [d1, d2, d3, d4, d5] }
  | _ => none }
def fnCacheGetKeepsRecentTokenRow : OpenClaim := { program := "qxb6603579a", sum := "6f8a8993b784054e12b5dbba434b580abf86786ec7737d37ca9df1a822db6bea", func := "example.com/marshal/marshal/zzlaws_pkg_tokens_b1.FnCacheGetKeepsRecentToken", spec := "fnCacheGetKeepsRecentToken", inPlace := ["(*internal/sync.Mutex).Lock", "internal/race.Disable", "sync/atomic.CompareAndSwapInt32", "internal/race.Enable", "internal/race.Acquire", "(*internal/sync.Mutex).lockSlow", "internal/sync.runtime_canSpin", "internal/sync.runtime_doSpin", "internal/sync.throw", "internal/sync.runtime_nanotime", "internal/sync.runtime_SemacquireMutex", "sync/atomic.AddInt32", "(*internal/sync.Mutex).Unlock", "internal/race.ReleaseMerge", "(*internal/sync.Mutex).unlockSlow", "internal/sync.fatal", "internal/sync.runtime_Semrelease"], apart := false }
def FnCacheGetKeepsRecentTokenSaid : Prop := fnCacheGetKeepsRecentTokenRow.holds Try.pinned (OpenSpec.ofChange fnCacheGetKeepsRecentTokenSpec)

/-- ITS FALSE NEIGHBOUR: 'it returns false'. Refute it at one input. -/
def fnCacheGetKeepsRecentTokenWrong : ChangeSpec := { name := "fnCacheGetKeepsRecentToken", fn := fun _ => fun
  | [d1, d2, d3, d4, d5] => { results := [.lit (.bool false)], args := [d1, d2, d3, d4, d5] }
  | _ => none }
def FnCacheGetKeepsRecentTokenWrongFalsely : Prop := fnCacheGetKeepsRecentTokenRow.holds Try.pinned (OpenSpec.ofChange fnCacheGetKeepsRecentTokenWrong)

end Rows
end Go.Proofs.Qxb6603579a

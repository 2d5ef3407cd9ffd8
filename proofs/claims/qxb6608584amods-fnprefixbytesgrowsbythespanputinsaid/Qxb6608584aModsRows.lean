/-
  No cell of these rows narrows 'for every input' (looked for: loops, veiled, ifaces, maps, wideKeys, modest, calm, conditions, laid).
  DERIVED. THE GIVEN ROWS OF THIS SEAT. 3 by the template 'for every input the law returns true; each argument reads behind the call as it read before'; 0 by the template 'total and deterministic' (their statements: Qxb6608584aModsTotals.lean).
  GIVEN WITH THE SEED: the statements are not yours to turn. If you find one false, say at which input.
  Laid BY PROGRAM, IN A SANDBOX (cutbox-rows.mjs): the forced cells as the released guide's own fill.sh prints them over the translation 0d01f91188b42a79… (all of the seat's roots in one cut). By AI agents, Wed Nov 11 2026. No macro, syntax, notation, axiom, sorry.
-/
import Derived.Test.Qxb6608584aModsChecked
import GoSem.Claim
import GoSem.ClaimJoined
import GoSem.ClaimMapViews
import Derived.JoinedTies
import Derived.KernelRfl
namespace Go.Proofs.Qxb6608584aMods
/- THE CELL 'sum', in the pinned program and in every row, IS THE sha256 OF THE DUMP (.gsa) THAT Qxb6608584aModsProg.lean LOADS. Nothing in Lean hashes anything: it is a label: what it is worth is what the hold of that sum in a sandbox is worth. -/
noncomputable def Trym.pinned : Pinned := { name := "qxb6608584amods", sum := "0d01f91188b42a79e2f947dcff3c1288f874da8c95ea87cd80b95f686c2e9c3f", checked := Trym.checked }
namespace Rows
def none {H : Type} : Left H := { results := [], args := [] }

/-- 'zzlaws_agent_b1.FnPrefixCacheTakingEveryPathGivesBackWhatWasKept': WHATEVER THE INPUT: true; the input reads as it did. -/
def fnPrefixCacheTakingEveryPathGivesBackWhatWasKeptSpec : ChangeSpec := { name := "fnPrefixCacheTakingEveryPathGivesBackWhatWasKept", fn := fun _ => fun
  | [d1, d2] => { results := [.lit (.bool true)], args := [d1, d2] }
  | _ => none }
def fnPrefixCacheTakingEveryPathGivesBackWhatWasKeptRow : OpenClaim := { program := "qxb6608584amods", sum := "0d01f91188b42a79e2f947dcff3c1288f874da8c95ea87cd80b95f686c2e9c3f", func := "example.com/fernweave/fernweave/zzlaws_agent_b1.FnPrefixCacheTakingEveryPathGivesBackWhatWasKept", spec := "fnPrefixCacheTakingEveryPathGivesBackWhatWasKept", inPlace := ["(*internal/sync.Mutex).Lock", "internal/race.Disable", "sync/atomic.CompareAndSwapInt32", "internal/race.Enable", "internal/race.Acquire", "(*internal/sync.Mutex).lockSlow", "internal/sync.runtime_canSpin", "internal/sync.runtime_doSpin", "internal/sync.throw", "internal/sync.runtime_nanotime", "internal/sync.runtime_SemacquireMutex", "sync/atomic.AddInt32", "(*internal/sync.Mutex).Unlock", "internal/race.ReleaseMerge", "(*internal/sync.Mutex).unlockSlow", "internal/sync.fatal", "internal/sync.runtime_Semrelease"], make := .lifted ["publicsums"], apart := false }
def FnPrefixCacheTakingEveryPathGivesBackWhatWasKeptSaid : Prop := fnPrefixCacheTakingEveryPathGivesBackWhatWasKeptRow.holds Trym.pinned (OpenSpec.ofChange fnPrefixCacheTakingEveryPathGivesBackWhatWasKeptSpec)

/-- ITS FALSE NEIGHBOUR: 'it returns false'. Refute it at one input. -/
def fnPrefixCacheTakingEveryPathGivesBackWhatWasKeptWrong : ChangeSpec := { name := "fnPrefixCacheTakingEveryPathGivesBackWhatWasKept", fn := fun _ => fun
  | [d1, d2] => { results := [.lit (.bool false)], args := [d1, d2] }
  | _ => none }
def FnPrefixCacheTakingEveryPathGivesBackWhatWasKeptWrongFalsely : Prop := fnPrefixCacheTakingEveryPathGivesBackWhatWasKeptRow.holds Trym.pinned (OpenSpec.ofChange fnPrefixCacheTakingEveryPathGivesBackWhatWasKeptWrong)

/-- 'zzlaws_agent_b1.FnPrefixBytesAddsOverAnyCut': WHATEVER THE INPUT: true; the input reads as it did. -/
def fnPrefixBytesAddsOverAnyCutSpec : ChangeSpec := { name := "fnPrefixBytesAddsOverAnyCut", fn := fun _ => fun
  | [d1, d2] => { results := [.lit (.bool true)], args := [d1, d2] }
  | _ => none }
def fnPrefixBytesAddsOverAnyCutRow : OpenClaim := { program := "qxb6608584amods", sum := "0d01f91188b42a79e2f947dcff3c1288f874da8c95ea87cd80b95f686c2e9c3f", func := "example.com/fernweave/fernweave/zzlaws_agent_b1.FnPrefixBytesAddsOverAnyCut", spec := "fnPrefixBytesAddsOverAnyCut", make := .lifted ["publicsums"], apart := false }
def FnPrefixBytesAddsOverAnyCutSaid : Prop := fnPrefixBytesAddsOverAnyCutRow.holds Trym.pinned (OpenSpec.ofChange fnPrefixBytesAddsOverAnyCutSpec)

/-- ITS FALSE NEIGHBOUR: 'it returns false'. Refute it at one input. -/
def fnPrefixBytesAddsOverAnyCutWrong : ChangeSpec := { name := "fnPrefixBytesAddsOverAnyCut", fn := fun _ => fun
  | [d1, d2] => { results := [.lit (.bool false)], args := [d1, d2] }
  | _ => none }
def FnPrefixBytesAddsOverAnyCutWrongFalsely : Prop := fnPrefixBytesAddsOverAnyCutRow.holds Trym.pinned (OpenSpec.ofChange fnPrefixBytesAddsOverAnyCutWrong)

/-- 'zzlaws_agent_b1.FnPrefixBytesGrowsByTheSpanPutIn': WHATEVER THE INPUT: true; the input reads as it did. -/
def fnPrefixBytesGrowsByTheSpanPutInSpec : ChangeSpec := { name := "fnPrefixBytesGrowsByTheSpanPutIn", fn := fun _ => fun
  | [d1, d2, d3, d4, d5] => { results := [.lit (.bool true)], args := [d1, d2, d3, d4, d5] }
  | _ => none }
def fnPrefixBytesGrowsByTheSpanPutInRow : OpenClaim := { program := "qxb6608584amods", sum := "0d01f91188b42a79e2f947dcff3c1288f874da8c95ea87cd80b95f686c2e9c3f", func := "example.com/fernweave/fernweave/zzlaws_agent_b1.FnPrefixBytesGrowsByTheSpanPutIn", spec := "fnPrefixBytesGrowsByTheSpanPutIn", make := .lifted ["publicsums"], apart := false }
def FnPrefixBytesGrowsByTheSpanPutInSaid : Prop := fnPrefixBytesGrowsByTheSpanPutInRow.holds Trym.pinned (OpenSpec.ofChange fnPrefixBytesGrowsByTheSpanPutInSpec)

/-- ITS FALSE NEIGHBOUR: 'it returns false'. Refute it at one input. -/
def fnPrefixBytesGrowsByTheSpanPutInWrong : ChangeSpec := { name := "fnPrefixBytesGrowsByTheSpanPutIn", fn := fun _ => fun
  | [d1, d2, d3, d4, d5] => { results := [.lit (.bool false)], args := [d1, d2, d3, d4, d5] }
  | _ => none }
def FnPrefixBytesGrowsByTheSpanPutInWrongFalsely : Prop := fnPrefixBytesGrowsByTheSpanPutInRow.holds Trym.pinned (OpenSpec.ofChange fnPrefixBytesGrowsByTheSpanPutInWrong)

end Rows
end Go.Proofs.Qxb6608584aMods

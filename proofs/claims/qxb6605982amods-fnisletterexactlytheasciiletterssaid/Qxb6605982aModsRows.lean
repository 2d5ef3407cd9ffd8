/-
  No cell of these rows narrows 'for every input' (looked for: loops, veiled, ifaces, maps, wideKeys, modest, calm, conditions, laid).
  DERIVED. THE GIVEN ROWS OF THIS SEAT. 7 by the template 'for every input the law returns true; each argument reads behind the call as it read before'; 0 by the template 'total and deterministic' (their statements: Qxb6605982aModsTotals.lean).
  GIVEN WITH THE SEED: the statements are not yours to turn. If you find one false, say at which input.
  Laid BY PROGRAM, IN A SANDBOX (cutbox-rows.mjs): the forced cells as the released guide's own fill.sh prints them over the translation fe35c47d50bea202… (all of the seat's roots in one cut). By AI agents, Wed Nov 11 2026. No macro, syntax, notation, axiom, sorry.
-/
import Derived.Test.Qxb6605982aModsChecked
import GoSem.Claim
import GoSem.ClaimJoined
import GoSem.ClaimMapViews
import Derived.JoinedTies
import Derived.KernelRfl
namespace Go.Proofs.Qxb6605982aMods
/- THE CELL 'sum', in the pinned program and in every row, IS THE sha256 OF THE DUMP (.gsa) THAT Qxb6605982aModsProg.lean LOADS. Nothing in Lean hashes anything: it is a label: what it is worth is what the hold of that sum in a sandbox is worth. -/
noncomputable def Trym.pinned : Pinned := { name := "qxb6605982amods", sum := "fe35c47d50bea20281d5d460a3094c81e1e776d8adb803a2a0c7f640ce7db686", checked := Trym.checked }
namespace Rows
def none {H : Type} : Left H := { results := [], args := [] }

/-- 'zzlaws_root_b1.FnOrderSortsByPriorityPositiveWeightsFirst': WHATEVER THE INPUT: true; the input reads as it did. -/
def fnOrderSortsByPriorityPositiveWeightsFirstSpec : ChangeSpec := { name := "fnOrderSortsByPriorityPositiveWeightsFirst", fn := fun _ => fun
  | [d] => { results := [.lit (.bool true)], args := [d] }
  | _ => none }
def fnOrderSortsByPriorityPositiveWeightsFirstRow : OpenClaim := { program := "qxb6605982amods", sum := "fe35c47d50bea20281d5d460a3094c81e1e776d8adb803a2a0c7f640ce7db686", func := "example.com/pharos/pharos/zzlaws_root_b1.FnOrderSortsByPriorityPositiveWeightsFirst", spec := "fnOrderSortsByPriorityPositiveWeightsFirst", unfollowed := true, recurses := true, make := .lifted ["publicsums"], apart := false }
def FnOrderSortsByPriorityPositiveWeightsFirstSaid : Prop := fnOrderSortsByPriorityPositiveWeightsFirstRow.holds Trym.pinned (OpenSpec.ofChange fnOrderSortsByPriorityPositiveWeightsFirstSpec)

/-- ITS FALSE NEIGHBOUR: 'it returns false'. Refute it at one input. -/
def fnOrderSortsByPriorityPositiveWeightsFirstWrong : ChangeSpec := { name := "fnOrderSortsByPriorityPositiveWeightsFirst", fn := fun _ => fun
  | [d] => { results := [.lit (.bool false)], args := [d] }
  | _ => none }
def FnOrderSortsByPriorityPositiveWeightsFirstWrongFalsely : Prop := fnOrderSortsByPriorityPositiveWeightsFirstRow.holds Trym.pinned (OpenSpec.ofChange fnOrderSortsByPriorityPositiveWeightsFirstWrong)

/-- 'zzlaws_root_b1.FnOrderKeysFreeOfDrawAndInputOrder': WHATEVER THE INPUT: true; the input reads as it did. -/
def fnOrderKeysFreeOfDrawAndInputOrderSpec : ChangeSpec := { name := "fnOrderKeysFreeOfDrawAndInputOrder", fn := fun _ => fun
  | [d] => { results := [.lit (.bool true)], args := [d] }
  | _ => none }
def fnOrderKeysFreeOfDrawAndInputOrderRow : OpenClaim := { program := "qxb6605982amods", sum := "fe35c47d50bea20281d5d460a3094c81e1e776d8adb803a2a0c7f640ce7db686", func := "example.com/pharos/pharos/zzlaws_root_b1.FnOrderKeysFreeOfDrawAndInputOrder", spec := "fnOrderKeysFreeOfDrawAndInputOrder", unfollowed := true, recurses := true, make := .lifted ["publicsums"], apart := false }
def FnOrderKeysFreeOfDrawAndInputOrderSaid : Prop := fnOrderKeysFreeOfDrawAndInputOrderRow.holds Trym.pinned (OpenSpec.ofChange fnOrderKeysFreeOfDrawAndInputOrderSpec)

/-- ITS FALSE NEIGHBOUR: 'it returns false'. Refute it at one input. -/
def fnOrderKeysFreeOfDrawAndInputOrderWrong : ChangeSpec := { name := "fnOrderKeysFreeOfDrawAndInputOrder", fn := fun _ => fun
  | [d] => { results := [.lit (.bool false)], args := [d] }
  | _ => none }
def FnOrderKeysFreeOfDrawAndInputOrderWrongFalsely : Prop := fnOrderKeysFreeOfDrawAndInputOrderRow.holds Trym.pinned (OpenSpec.ofChange fnOrderKeysFreeOfDrawAndInputOrderWrong)

/-- 'zzlaws_root_b1.FnIsLetterExactlyTheASCIILetters': WHATEVER THE INPUT: true; the input reads as it did. -/
def fnIsLetterExactlyTheASCIILettersSpec : ChangeSpec := { name := "fnIsLetterExactlyTheASCIILetters", fn := fun _ => fun
  | [d] => { results := [.lit (.bool true)], args := [d] }
  | _ => none }
def fnIsLetterExactlyTheASCIILettersRow : OpenClaim := { program := "qxb6605982amods", sum := "fe35c47d50bea20281d5d460a3094c81e1e776d8adb803a2a0c7f640ce7db686", func := "example.com/pharos/pharos/zzlaws_root_b1.FnIsLetterExactlyTheASCIILetters", spec := "fnIsLetterExactlyTheASCIILetters", make := .lifted ["publicsums"], apart := false }
def FnIsLetterExactlyTheASCIILettersSaid : Prop := fnIsLetterExactlyTheASCIILettersRow.holds Trym.pinned (OpenSpec.ofChange fnIsLetterExactlyTheASCIILettersSpec)

/-- ITS FALSE NEIGHBOUR: 'it returns false'. Refute it at one input. -/
def fnIsLetterExactlyTheASCIILettersWrong : ChangeSpec := { name := "fnIsLetterExactlyTheASCIILetters", fn := fun _ => fun
  | [d] => { results := [.lit (.bool false)], args := [d] }
  | _ => none }
def FnIsLetterExactlyTheASCIILettersWrongFalsely : Prop := fnIsLetterExactlyTheASCIILettersRow.holds Trym.pinned (OpenSpec.ofChange fnIsLetterExactlyTheASCIILettersWrong)

/-- 'zzlaws_root_b1.FnIsLetterCaseFoldAndBitForm': WHATEVER THE INPUT: true; the input reads as it did. -/
def fnIsLetterCaseFoldAndBitFormSpec : ChangeSpec := { name := "fnIsLetterCaseFoldAndBitForm", fn := fun _ => fun
  | [d] => { results := [.lit (.bool true)], args := [d] }
  | _ => none }
def fnIsLetterCaseFoldAndBitFormRow : OpenClaim := { program := "qxb6605982amods", sum := "fe35c47d50bea20281d5d460a3094c81e1e776d8adb803a2a0c7f640ce7db686", func := "example.com/pharos/pharos/zzlaws_root_b1.FnIsLetterCaseFoldAndBitForm", spec := "fnIsLetterCaseFoldAndBitForm", make := .lifted ["publicsums"], apart := false }
def FnIsLetterCaseFoldAndBitFormSaid : Prop := fnIsLetterCaseFoldAndBitFormRow.holds Trym.pinned (OpenSpec.ofChange fnIsLetterCaseFoldAndBitFormSpec)

/-- ITS FALSE NEIGHBOUR: 'it returns false'. Refute it at one input. -/
def fnIsLetterCaseFoldAndBitFormWrong : ChangeSpec := { name := "fnIsLetterCaseFoldAndBitForm", fn := fun _ => fun
  | [d] => { results := [.lit (.bool false)], args := [d] }
  | _ => none }
def FnIsLetterCaseFoldAndBitFormWrongFalsely : Prop := fnIsLetterCaseFoldAndBitFormRow.holds Trym.pinned (OpenSpec.ofChange fnIsLetterCaseFoldAndBitFormWrong)

/-- 'zzlaws_root_b1.FnAttemptTimeoutNeverShorterThanAsked': WHATEVER THE INPUT: true; the input reads as it did. -/
def fnAttemptTimeoutNeverShorterThanAskedSpec : ChangeSpec := { name := "fnAttemptTimeoutNeverShorterThanAsked", fn := fun _ => fun
  | [d] => { results := [.lit (.bool true)], args := [d] }
  | _ => none }
def fnAttemptTimeoutNeverShorterThanAskedRow : OpenClaim := { program := "qxb6605982amods", sum := "fe35c47d50bea20281d5d460a3094c81e1e776d8adb803a2a0c7f640ce7db686", func := "example.com/pharos/pharos/zzlaws_root_b1.FnAttemptTimeoutNeverShorterThanAsked", spec := "fnAttemptTimeoutNeverShorterThanAsked", make := .lifted ["publicsums"], apart := false }
def FnAttemptTimeoutNeverShorterThanAskedSaid : Prop := fnAttemptTimeoutNeverShorterThanAskedRow.holds Trym.pinned (OpenSpec.ofChange fnAttemptTimeoutNeverShorterThanAskedSpec)

/-- ITS FALSE NEIGHBOUR: 'it returns false'. Refute it at one input. -/
def fnAttemptTimeoutNeverShorterThanAskedWrong : ChangeSpec := { name := "fnAttemptTimeoutNeverShorterThanAsked", fn := fun _ => fun
  | [d] => { results := [.lit (.bool false)], args := [d] }
  | _ => none }
def FnAttemptTimeoutNeverShorterThanAskedWrongFalsely : Prop := fnAttemptTimeoutNeverShorterThanAskedRow.holds Trym.pinned (OpenSpec.ofChange fnAttemptTimeoutNeverShorterThanAskedWrong)

/-- 'zzlaws_root_b1.FnToAskSkipsFailedServersElseAsksAll': WHATEVER THE INPUT: true; the input reads as it did. -/
def fnToAskSkipsFailedServersElseAsksAllSpec : ChangeSpec := { name := "fnToAskSkipsFailedServersElseAsksAll", fn := fun _ => fun
  | [d1, d2, d3] => { results := [.lit (.bool true)], args := [d1, d2, d3] }
  | _ => none }
def fnToAskSkipsFailedServersElseAsksAllRow : OpenClaim := { program := "qxb6605982amods", sum := "fe35c47d50bea20281d5d460a3094c81e1e776d8adb803a2a0c7f640ce7db686", func := "example.com/pharos/pharos/zzlaws_root_b1.FnToAskSkipsFailedServersElseAsksAll", spec := "fnToAskSkipsFailedServersElseAsksAll", inPlace := ["(*internal/sync.Mutex).Lock", "internal/race.Disable", "sync/atomic.CompareAndSwapInt32", "internal/race.Enable", "internal/race.Acquire", "(*internal/sync.Mutex).lockSlow", "internal/sync.runtime_canSpin", "internal/sync.runtime_doSpin", "internal/sync.throw", "internal/sync.runtime_nanotime", "internal/sync.runtime_SemacquireMutex", "sync/atomic.AddInt32", "(*internal/sync.Mutex).Unlock", "internal/race.ReleaseMerge", "(*internal/sync.Mutex).unlockSlow", "internal/sync.fatal", "internal/sync.runtime_Semrelease"], unfollowed := true, recurses := true, make := .lifted ["publicsums"], apart := false }
def FnToAskSkipsFailedServersElseAsksAllSaid : Prop := fnToAskSkipsFailedServersElseAsksAllRow.holds Trym.pinned (OpenSpec.ofChange fnToAskSkipsFailedServersElseAsksAllSpec)

/-- ITS FALSE NEIGHBOUR: 'it returns false'. Refute it at one input. -/
def fnToAskSkipsFailedServersElseAsksAllWrong : ChangeSpec := { name := "fnToAskSkipsFailedServersElseAsksAll", fn := fun _ => fun
  | [d1, d2, d3] => { results := [.lit (.bool false)], args := [d1, d2, d3] }
  | _ => none }
def FnToAskSkipsFailedServersElseAsksAllWrongFalsely : Prop := fnToAskSkipsFailedServersElseAsksAllRow.holds Trym.pinned (OpenSpec.ofChange fnToAskSkipsFailedServersElseAsksAllWrong)

/-- 'zzlaws_root_b1.FnToAskMoreFailuresOnlyNarrow': WHATEVER THE INPUT: true; the input reads as it did. -/
def fnToAskMoreFailuresOnlyNarrowSpec : ChangeSpec := { name := "fnToAskMoreFailuresOnlyNarrow", fn := fun _ => fun
  | [d1, d2, d3] => { results := [.lit (.bool true)], args := [d1, d2, d3] }
  | _ => none }
def fnToAskMoreFailuresOnlyNarrowRow : OpenClaim := { program := "qxb6605982amods", sum := "fe35c47d50bea20281d5d460a3094c81e1e776d8adb803a2a0c7f640ce7db686", func := "example.com/pharos/pharos/zzlaws_root_b1.FnToAskMoreFailuresOnlyNarrow", spec := "fnToAskMoreFailuresOnlyNarrow", inPlace := ["(*internal/sync.Mutex).Lock", "internal/race.Disable", "sync/atomic.CompareAndSwapInt32", "internal/race.Enable", "internal/race.Acquire", "(*internal/sync.Mutex).lockSlow", "internal/sync.runtime_canSpin", "internal/sync.runtime_doSpin", "internal/sync.throw", "internal/sync.runtime_nanotime", "internal/sync.runtime_SemacquireMutex", "sync/atomic.AddInt32", "(*internal/sync.Mutex).Unlock", "internal/race.ReleaseMerge", "(*internal/sync.Mutex).unlockSlow", "internal/sync.fatal", "internal/sync.runtime_Semrelease"], unfollowed := true, recurses := true, make := .lifted ["publicsums"], apart := false }
def FnToAskMoreFailuresOnlyNarrowSaid : Prop := fnToAskMoreFailuresOnlyNarrowRow.holds Trym.pinned (OpenSpec.ofChange fnToAskMoreFailuresOnlyNarrowSpec)

/-- ITS FALSE NEIGHBOUR: 'it returns false'. Refute it at one input. -/
def fnToAskMoreFailuresOnlyNarrowWrong : ChangeSpec := { name := "fnToAskMoreFailuresOnlyNarrow", fn := fun _ => fun
  | [d1, d2, d3] => { results := [.lit (.bool false)], args := [d1, d2, d3] }
  | _ => none }
def FnToAskMoreFailuresOnlyNarrowWrongFalsely : Prop := fnToAskMoreFailuresOnlyNarrowRow.holds Trym.pinned (OpenSpec.ofChange fnToAskMoreFailuresOnlyNarrowWrong)

end Rows
end Go.Proofs.Qxb6605982aMods

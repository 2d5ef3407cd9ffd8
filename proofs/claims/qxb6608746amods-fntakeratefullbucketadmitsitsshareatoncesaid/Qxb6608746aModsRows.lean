/-
  No cell of these rows narrows 'for every input' (looked for: loops, veiled, ifaces, maps, wideKeys, modest, calm, conditions, laid).
  DERIVED. THE GIVEN ROWS OF THIS SEAT. 2 by the template 'for every input the law returns true; each argument reads behind the call as it read before'; 0 by the template 'total and deterministic' (their statements: Qxb6608746aModsTotals.lean).
  GIVEN WITH THE SEED: the statements are not yours to turn. If you find one false, say at which input.
  Laid BY PROGRAM, IN A SANDBOX (cutbox-rows.mjs): the forced cells as the released guide's own fill.sh prints them over the translation 408a91d89eebcf45… (all of the seat's roots in one cut). By AI agents, Wed Nov 11 2026. No macro, syntax, notation, axiom, sorry.
-/
import Derived.Test.Qxb6608746aModsChecked
import GoSem.Claim
import GoSem.ClaimJoined
import GoSem.ClaimMapViews
import Derived.JoinedTies
import Derived.KernelRfl
namespace Go.Proofs.Qxb6608746aMods
/- THE CELL 'sum', in the pinned program and in every row, IS THE sha256 OF THE DUMP (.gsa) THAT Qxb6608746aModsProg.lean LOADS. Nothing in Lean hashes anything: it is a label: what it is worth is what the hold of that sum in a sandbox is worth. -/
noncomputable def Trym.pinned : Pinned := { name := "qxb6608746amods", sum := "408a91d89eebcf45753d22909569783a0b575e24e8cc87c114321476ae3b9318", checked := Trym.checked }
namespace Rows
def none {H : Type} : Left H := { results := [], args := [] }

/-- 'zzlaws_root_b1.FnTakeRateFullBucketAdmitsItsShareAtOnce': WHATEVER THE INPUT: true; the input reads as it did. -/
def fnTakeRateFullBucketAdmitsItsShareAtOnceSpec : ChangeSpec := { name := "fnTakeRateFullBucketAdmitsItsShareAtOnce", fn := fun _ => fun
  | [d1, d2, d3, d4, d5, d6, d7, d8] => { results := [.lit (.bool true)], args := [d1, d2, d3, d4, d5, d6, d7, d8] }
  | _ => none }
def fnTakeRateFullBucketAdmitsItsShareAtOnceRow : OpenClaim := { program := "qxb6608746amods", sum := "408a91d89eebcf45753d22909569783a0b575e24e8cc87c114321476ae3b9318", func := "example.com/quayside/quayside/zzlaws_root_b1.FnTakeRateFullBucketAdmitsItsShareAtOnce", spec := "fnTakeRateFullBucketAdmitsItsShareAtOnce", make := .lifted ["publicsums"], apart := false }
def FnTakeRateFullBucketAdmitsItsShareAtOnceSaid : Prop := fnTakeRateFullBucketAdmitsItsShareAtOnceRow.holds Trym.pinned (OpenSpec.ofChange fnTakeRateFullBucketAdmitsItsShareAtOnceSpec)

/-- ITS FALSE NEIGHBOUR: 'it returns false'. Refute it at one input. -/
def fnTakeRateFullBucketAdmitsItsShareAtOnceWrong : ChangeSpec := { name := "fnTakeRateFullBucketAdmitsItsShareAtOnce", fn := fun _ => fun
  | [d1, d2, d3, d4, d5, d6, d7, d8] => { results := [.lit (.bool false)], args := [d1, d2, d3, d4, d5, d6, d7, d8] }
  | _ => none }
def FnTakeRateFullBucketAdmitsItsShareAtOnceWrongFalsely : Prop := fnTakeRateFullBucketAdmitsItsShareAtOnceRow.holds Trym.pinned (OpenSpec.ofChange fnTakeRateFullBucketAdmitsItsShareAtOnceWrong)

/-- 'zzlaws_root_b1.FnTakeRateWaitIsExact': WHATEVER THE INPUT: true; the input reads as it did. -/
def fnTakeRateWaitIsExactSpec : ChangeSpec := { name := "fnTakeRateWaitIsExact", fn := fun _ => fun
  | [d1, d2, d3, d4, d5, d6, d7, d8] => { results := [.lit (.bool true)], args := [d1, d2, d3, d4, d5, d6, d7, d8] }
  | _ => none }
def fnTakeRateWaitIsExactRow : OpenClaim := { program := "qxb6608746amods", sum := "408a91d89eebcf45753d22909569783a0b575e24e8cc87c114321476ae3b9318", func := "example.com/quayside/quayside/zzlaws_root_b1.FnTakeRateWaitIsExact", spec := "fnTakeRateWaitIsExact", make := .lifted ["publicsums"], apart := false }
def FnTakeRateWaitIsExactSaid : Prop := fnTakeRateWaitIsExactRow.holds Trym.pinned (OpenSpec.ofChange fnTakeRateWaitIsExactSpec)

/-- ITS FALSE NEIGHBOUR: 'it returns false'. Refute it at one input. -/
def fnTakeRateWaitIsExactWrong : ChangeSpec := { name := "fnTakeRateWaitIsExact", fn := fun _ => fun
  | [d1, d2, d3, d4, d5, d6, d7, d8] => { results := [.lit (.bool false)], args := [d1, d2, d3, d4, d5, d6, d7, d8] }
  | _ => none }
def FnTakeRateWaitIsExactWrongFalsely : Prop := fnTakeRateWaitIsExactRow.holds Trym.pinned (OpenSpec.ofChange fnTakeRateWaitIsExactWrong)

end Rows
end Go.Proofs.Qxb6608746aMods

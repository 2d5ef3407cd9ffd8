/-
  No cell of these rows narrows 'for every input' (looked for: loops, veiled, ifaces, maps, wideKeys, modest, calm, conditions, laid).
  DERIVED. THE GIVEN ROWS OF THIS SEAT. 2 by the template 'for every input the law returns true; each argument reads behind the call as it read before'; 0 by the template 'total and deterministic' (their statements: Qxb6617096aModsTotals.lean).
  GIVEN WITH THE SEED: the statements are not yours to turn. If you find one false, say at which input.
  Laid BY PROGRAM, IN A SANDBOX (cutbox-rows.mjs): the forced cells as the released guide's own fill.sh prints them over the translation 6ab1ada87f6af329… (all of the seat's roots in one cut). By AI agents, Wed Nov 11 2026. No macro, syntax, notation, axiom, sorry.
-/
import Derived.Test.Qxb6617096aModsChecked
import GoSem.Claim
import GoSem.ClaimJoined
import GoSem.ClaimMapViews
import Derived.JoinedTies
import Derived.KernelRfl
namespace Go.Proofs.Qxb6617096aMods
/- THE CELL 'sum', in the pinned program and in every row, IS THE sha256 OF THE DUMP (.gsa) THAT Qxb6617096aModsProg.lean LOADS. Nothing in Lean hashes anything: it is a label: what it is worth is what the hold of that sum in a sandbox is worth. -/
noncomputable def Trym.pinned : Pinned := { name := "qxb6617096amods", sum := "6ab1ada87f6af3294d04838b0eb209864730d21abee527f0f90c536209936a50", checked := Trym.checked }
namespace Rows
def none {H : Type} : Left H := { results := [], args := [] }

/-- 'zzlaws_internal_kv_b1.FnPairBuildsTheCanonicalTrieOfTwoEntries': WHATEVER THE INPUT: true; the input reads as it did. -/
def fnPairBuildsTheCanonicalTrieOfTwoEntriesSpec : ChangeSpec := { name := "fnPairBuildsTheCanonicalTrieOfTwoEntries", fn := fun _ => fun
  | [d1, d2, d3, d4, d5, d6, d7, d8] => { results := [.lit (.bool true)], args := [d1, d2, d3, d4, d5, d6, d7, d8] }
  | _ => none }
def fnPairBuildsTheCanonicalTrieOfTwoEntriesRow : OpenClaim := { program := "qxb6617096amods", sum := "6ab1ada87f6af3294d04838b0eb209864730d21abee527f0f90c536209936a50", func := "example.com/shardwright/shardwright/zzlaws_internal_kv_b1.FnPairBuildsTheCanonicalTrieOfTwoEntries", spec := "fnPairBuildsTheCanonicalTrieOfTwoEntries", recurses := true, make := .lifted ["publicsums"], apart := false }
def FnPairBuildsTheCanonicalTrieOfTwoEntriesSaid : Prop := fnPairBuildsTheCanonicalTrieOfTwoEntriesRow.holds Trym.pinned (OpenSpec.ofChange fnPairBuildsTheCanonicalTrieOfTwoEntriesSpec)

/-- ITS FALSE NEIGHBOUR: 'it returns false'. Refute it at one input. -/
def fnPairBuildsTheCanonicalTrieOfTwoEntriesWrong : ChangeSpec := { name := "fnPairBuildsTheCanonicalTrieOfTwoEntries", fn := fun _ => fun
  | [d1, d2, d3, d4, d5, d6, d7, d8] => { results := [.lit (.bool false)], args := [d1, d2, d3, d4, d5, d6, d7, d8] }
  | _ => none }
def FnPairBuildsTheCanonicalTrieOfTwoEntriesWrongFalsely : Prop := fnPairBuildsTheCanonicalTrieOfTwoEntriesRow.holds Trym.pinned (OpenSpec.ofChange fnPairBuildsTheCanonicalTrieOfTwoEntriesWrong)

/-- 'zzlaws_internal_kv_b1.FnOwnGivesTheTrieAWritableNodeOfTheSameContents': WHATEVER THE INPUT: true; the input reads as it did. -/
def fnOwnGivesTheTrieAWritableNodeOfTheSameContentsSpec : ChangeSpec := { name := "fnOwnGivesTheTrieAWritableNodeOfTheSameContents", fn := fun _ => fun
  | [d1, d2, d3, d4, d5, d6, d7, d8] => { results := [.lit (.bool true)], args := [d1, d2, d3, d4, d5, d6, d7, d8] }
  | _ => none }
def fnOwnGivesTheTrieAWritableNodeOfTheSameContentsRow : OpenClaim := { program := "qxb6617096amods", sum := "6ab1ada87f6af3294d04838b0eb209864730d21abee527f0f90c536209936a50", func := "example.com/shardwright/shardwright/zzlaws_internal_kv_b1.FnOwnGivesTheTrieAWritableNodeOfTheSameContents", spec := "fnOwnGivesTheTrieAWritableNodeOfTheSameContents", make := .lifted ["publicsums"], apart := false }
def FnOwnGivesTheTrieAWritableNodeOfTheSameContentsSaid : Prop := fnOwnGivesTheTrieAWritableNodeOfTheSameContentsRow.holds Trym.pinned (OpenSpec.ofChange fnOwnGivesTheTrieAWritableNodeOfTheSameContentsSpec)

/-- ITS FALSE NEIGHBOUR: 'it returns false'. Refute it at one input. -/
def fnOwnGivesTheTrieAWritableNodeOfTheSameContentsWrong : ChangeSpec := { name := "fnOwnGivesTheTrieAWritableNodeOfTheSameContents", fn := fun _ => fun
  | [d1, d2, d3, d4, d5, d6, d7, d8] => { results := [.lit (.bool false)], args := [d1, d2, d3, d4, d5, d6, d7, d8] }
  | _ => none }
def FnOwnGivesTheTrieAWritableNodeOfTheSameContentsWrongFalsely : Prop := fnOwnGivesTheTrieAWritableNodeOfTheSameContentsRow.holds Trym.pinned (OpenSpec.ofChange fnOwnGivesTheTrieAWritableNodeOfTheSameContentsWrong)

end Rows
end Go.Proofs.Qxb6617096aMods

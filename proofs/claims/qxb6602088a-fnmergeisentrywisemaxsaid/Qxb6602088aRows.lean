/-
  No cell of these rows narrows 'for every input' (looked for: loops, veiled, ifaces, maps, wideKeys, modest, calm, conditions, laid).
  DERIVED. THE GIVEN ROWS OF THIS SEAT. 7 by the template 'for every input the law returns true; each argument reads behind the call as it read before'; 0 by the template 'total and deterministic' (their statements: Qxb6602088aTotals.lean).
  GIVEN WITH THE SEED: the statements are not yours to turn. If you find one false, say at which input.
  Laid BY PROGRAM, IN A SANDBOX (cutbox-rows.mjs): the forced cells as the released guide's own fill.sh prints them over the translation 5ebd8c6b6b62161f… (all of the seat's roots in one cut). By AI agents, Wed Nov 11 2026. No macro, syntax, notation, axiom, sorry.
-/
import Derived.Test.Qxb6602088aChecked
import GoSem.Claim
import GoSem.ClaimJoined
import GoSem.ClaimMapViews
import Derived.JoinedTies
import Derived.KernelRfl
namespace Go.Proofs.Qxb6602088a
/- THE CELL 'sum', in the pinned program and in every row, IS THE sha256 OF THE DUMP (.gsa) THAT Qxb6602088aProg.lean LOADS. Nothing in Lean hashes anything: it is a label: what it is worth is what the hold of that sum in a sandbox is worth. -/
noncomputable def Try.pinned : Pinned := { name := "qxb6602088a", sum := "5ebd8c6b6b62161f26c1be4a66d7ebb7faa632a96803bb600e77723a9e041518", checked := Try.checked }
namespace Rows
def none {H : Type} : Left H := { results := [], args := [] }

/-- 'zzlaws_root_b1.FnMergeIsEntrywiseMax': WHATEVER THE INPUT: true; the input reads as it did. -/
def fnMergeIsEntrywiseMaxSpec : ChangeSpec := { name := "fnMergeIsEntrywiseMax", fn := fun _ => fun
  | [d1, d2, d3, d4] => { results := [.lit (.bool true)], args := [d1, d2, d3, d4] }
  | _ => none }
def fnMergeIsEntrywiseMaxRow : OpenClaim := { program := "qxb6602088a", sum := "5ebd8c6b6b62161f26c1be4a66d7ebb7faa632a96803bb600e77723a9e041518", func := "example.com/causeline/causeline/zzlaws_root_b1.FnMergeIsEntrywiseMax", spec := "fnMergeIsEntrywiseMax", inPlace := ["internal/bytealg.abigen_runtime_cmpstring"], apart := false }
def FnMergeIsEntrywiseMaxSaid : Prop := fnMergeIsEntrywiseMaxRow.holds Try.pinned (OpenSpec.ofChange fnMergeIsEntrywiseMaxSpec)

/-- ITS FALSE NEIGHBOUR: 'it returns false'. Refute it at one input. -/
def fnMergeIsEntrywiseMaxWrong : ChangeSpec := { name := "fnMergeIsEntrywiseMax", fn := fun _ => fun
  | [d1, d2, d3, d4] => { results := [.lit (.bool false)], args := [d1, d2, d3, d4] }
  | _ => none }
def FnMergeIsEntrywiseMaxWrongFalsely : Prop := fnMergeIsEntrywiseMaxRow.holds Try.pinned (OpenSpec.ofChange fnMergeIsEntrywiseMaxWrong)

/-- 'zzlaws_root_b1.FnMergeCommutesAndSettles': WHATEVER THE INPUT: true; the input reads as it did. -/
def fnMergeCommutesAndSettlesSpec : ChangeSpec := { name := "fnMergeCommutesAndSettles", fn := fun _ => fun
  | [d1, d2, d3, d4] => { results := [.lit (.bool true)], args := [d1, d2, d3, d4] }
  | _ => none }
def fnMergeCommutesAndSettlesRow : OpenClaim := { program := "qxb6602088a", sum := "5ebd8c6b6b62161f26c1be4a66d7ebb7faa632a96803bb600e77723a9e041518", func := "example.com/causeline/causeline/zzlaws_root_b1.FnMergeCommutesAndSettles", spec := "fnMergeCommutesAndSettles", inPlace := ["internal/bytealg.abigen_runtime_cmpstring"], apart := false }
def FnMergeCommutesAndSettlesSaid : Prop := fnMergeCommutesAndSettlesRow.holds Try.pinned (OpenSpec.ofChange fnMergeCommutesAndSettlesSpec)

/-- ITS FALSE NEIGHBOUR: 'it returns false'. Refute it at one input. -/
def fnMergeCommutesAndSettlesWrong : ChangeSpec := { name := "fnMergeCommutesAndSettles", fn := fun _ => fun
  | [d1, d2, d3, d4] => { results := [.lit (.bool false)], args := [d1, d2, d3, d4] }
  | _ => none }
def FnMergeCommutesAndSettlesWrongFalsely : Prop := fnMergeCommutesAndSettlesRow.holds Try.pinned (OpenSpec.ofChange fnMergeCommutesAndSettlesWrong)

/-- 'zzlaws_root_b1.FnCompareMatchesDominance': WHATEVER THE INPUT: true; the input reads as it did. -/
def fnCompareMatchesDominanceSpec : ChangeSpec := { name := "fnCompareMatchesDominance", fn := fun _ => fun
  | [d1, d2, d3, d4] => { results := [.lit (.bool true)], args := [d1, d2, d3, d4] }
  | _ => none }
def fnCompareMatchesDominanceRow : OpenClaim := { program := "qxb6602088a", sum := "5ebd8c6b6b62161f26c1be4a66d7ebb7faa632a96803bb600e77723a9e041518", func := "example.com/causeline/causeline/zzlaws_root_b1.FnCompareMatchesDominance", spec := "fnCompareMatchesDominance", inPlace := ["internal/bytealg.abigen_runtime_cmpstring"], apart := false }
def FnCompareMatchesDominanceSaid : Prop := fnCompareMatchesDominanceRow.holds Try.pinned (OpenSpec.ofChange fnCompareMatchesDominanceSpec)

/-- ITS FALSE NEIGHBOUR: 'it returns false'. Refute it at one input. -/
def fnCompareMatchesDominanceWrong : ChangeSpec := { name := "fnCompareMatchesDominance", fn := fun _ => fun
  | [d1, d2, d3, d4] => { results := [.lit (.bool false)], args := [d1, d2, d3, d4] }
  | _ => none }
def FnCompareMatchesDominanceWrongFalsely : Prop := fnCompareMatchesDominanceRow.holds Try.pinned (OpenSpec.ofChange fnCompareMatchesDominanceWrong)

/-- 'zzlaws_root_b1.FnCompareMirrorsAndIsReflexive': WHATEVER THE INPUT: true; the input reads as it did. -/
def fnCompareMirrorsAndIsReflexiveSpec : ChangeSpec := { name := "fnCompareMirrorsAndIsReflexive", fn := fun _ => fun
  | [d1, d2, d3, d4] => { results := [.lit (.bool true)], args := [d1, d2, d3, d4] }
  | _ => none }
def fnCompareMirrorsAndIsReflexiveRow : OpenClaim := { program := "qxb6602088a", sum := "5ebd8c6b6b62161f26c1be4a66d7ebb7faa632a96803bb600e77723a9e041518", func := "example.com/causeline/causeline/zzlaws_root_b1.FnCompareMirrorsAndIsReflexive", spec := "fnCompareMirrorsAndIsReflexive", inPlace := ["internal/bytealg.abigen_runtime_cmpstring"], apart := false }
def FnCompareMirrorsAndIsReflexiveSaid : Prop := fnCompareMirrorsAndIsReflexiveRow.holds Try.pinned (OpenSpec.ofChange fnCompareMirrorsAndIsReflexiveSpec)

/-- ITS FALSE NEIGHBOUR: 'it returns false'. Refute it at one input. -/
def fnCompareMirrorsAndIsReflexiveWrong : ChangeSpec := { name := "fnCompareMirrorsAndIsReflexive", fn := fun _ => fun
  | [d1, d2, d3, d4] => { results := [.lit (.bool false)], args := [d1, d2, d3, d4] }
  | _ => none }
def FnCompareMirrorsAndIsReflexiveWrongFalsely : Prop := fnCompareMirrorsAndIsReflexiveRow.holds Try.pinned (OpenSpec.ofChange fnCompareMirrorsAndIsReflexiveWrong)

/-- 'zzlaws_root_b1.FnMergeIsUpperBoundByCompare': WHATEVER THE INPUT: true; the input reads as it did. -/
def fnMergeIsUpperBoundByCompareSpec : ChangeSpec := { name := "fnMergeIsUpperBoundByCompare", fn := fun _ => fun
  | [d1, d2, d3, d4] => { results := [.lit (.bool true)], args := [d1, d2, d3, d4] }
  | _ => none }
def fnMergeIsUpperBoundByCompareRow : OpenClaim := { program := "qxb6602088a", sum := "5ebd8c6b6b62161f26c1be4a66d7ebb7faa632a96803bb600e77723a9e041518", func := "example.com/causeline/causeline/zzlaws_root_b1.FnMergeIsUpperBoundByCompare", spec := "fnMergeIsUpperBoundByCompare", inPlace := ["internal/bytealg.abigen_runtime_cmpstring"], apart := false }
def FnMergeIsUpperBoundByCompareSaid : Prop := fnMergeIsUpperBoundByCompareRow.holds Try.pinned (OpenSpec.ofChange fnMergeIsUpperBoundByCompareSpec)

/-- ITS FALSE NEIGHBOUR: 'it returns false'. Refute it at one input. -/
def fnMergeIsUpperBoundByCompareWrong : ChangeSpec := { name := "fnMergeIsUpperBoundByCompare", fn := fun _ => fun
  | [d1, d2, d3, d4] => { results := [.lit (.bool false)], args := [d1, d2, d3, d4] }
  | _ => none }
def FnMergeIsUpperBoundByCompareWrongFalsely : Prop := fnMergeIsUpperBoundByCompareRow.holds Try.pinned (OpenSpec.ofChange fnMergeIsUpperBoundByCompareWrong)

/-- 'zzlaws_root_b1.FnAppendActorReadsBackCanonically': WHATEVER THE INPUT: true; the input reads as it did. -/
def fnAppendActorReadsBackCanonicallySpec : ChangeSpec := { name := "fnAppendActorReadsBackCanonically", fn := fun _ => fun
  | [d1, d2] => { results := [.lit (.bool true)], args := [d1, d2] }
  | _ => none }
def fnAppendActorReadsBackCanonicallyRow : OpenClaim := { program := "qxb6602088a", sum := "5ebd8c6b6b62161f26c1be4a66d7ebb7faa632a96803bb600e77723a9e041518", func := "example.com/causeline/causeline/zzlaws_root_b1.FnAppendActorReadsBackCanonically", spec := "fnAppendActorReadsBackCanonically", apart := false }
def FnAppendActorReadsBackCanonicallySaid : Prop := fnAppendActorReadsBackCanonicallyRow.holds Try.pinned (OpenSpec.ofChange fnAppendActorReadsBackCanonicallySpec)

/-- ITS FALSE NEIGHBOUR: 'it returns false'. Refute it at one input. -/
def fnAppendActorReadsBackCanonicallyWrong : ChangeSpec := { name := "fnAppendActorReadsBackCanonically", fn := fun _ => fun
  | [d1, d2] => { results := [.lit (.bool false)], args := [d1, d2] }
  | _ => none }
def FnAppendActorReadsBackCanonicallyWrongFalsely : Prop := fnAppendActorReadsBackCanonicallyRow.holds Try.pinned (OpenSpec.ofChange fnAppendActorReadsBackCanonicallyWrong)

/-- 'zzlaws_root_b1.FnAppendActorIgnoresPrefix': WHATEVER THE INPUT: true; the input reads as it did. -/
def fnAppendActorIgnoresPrefixSpec : ChangeSpec := { name := "fnAppendActorIgnoresPrefix", fn := fun _ => fun
  | [d1, d2] => { results := [.lit (.bool true)], args := [d1, d2] }
  | _ => none }
def fnAppendActorIgnoresPrefixRow : OpenClaim := { program := "qxb6602088a", sum := "5ebd8c6b6b62161f26c1be4a66d7ebb7faa632a96803bb600e77723a9e041518", func := "example.com/causeline/causeline/zzlaws_root_b1.FnAppendActorIgnoresPrefix", spec := "fnAppendActorIgnoresPrefix", apart := false }
def FnAppendActorIgnoresPrefixSaid : Prop := fnAppendActorIgnoresPrefixRow.holds Try.pinned (OpenSpec.ofChange fnAppendActorIgnoresPrefixSpec)

/-- ITS FALSE NEIGHBOUR: 'it returns false'. Refute it at one input. -/
def fnAppendActorIgnoresPrefixWrong : ChangeSpec := { name := "fnAppendActorIgnoresPrefix", fn := fun _ => fun
  | [d1, d2] => { results := [.lit (.bool false)], args := [d1, d2] }
  | _ => none }
def FnAppendActorIgnoresPrefixWrongFalsely : Prop := fnAppendActorIgnoresPrefixRow.holds Try.pinned (OpenSpec.ofChange fnAppendActorIgnoresPrefixWrong)

end Rows
end Go.Proofs.Qxb6602088a

/-
  No cell of these rows narrows 'for every input' (looked for: loops, veiled, ifaces, maps, wideKeys, modest, calm, conditions, laid).
  DERIVED. THE GIVEN ROWS OF THIS SEAT. 4 by the template 'for every input the law returns true; each argument reads behind the call as it read before'; 0 by the template 'total and deterministic' (their statements: Qxb6615030aTotals.lean).
  GIVEN WITH THE SEED: the statements are not yours to turn. If you find one false, say at which input.
  Laid BY PROGRAM, IN A SANDBOX (cutbox-rows.mjs): the forced cells as the released guide's own fill.sh prints them over the translation 9a51814aa9fd4586… (all of the seat's roots in one cut). By AI agents, Wed Nov 11 2026. No macro, syntax, notation, axiom, sorry.
-/
import Derived.Test.Qxb6615030aChecked
import GoSem.Claim
import GoSem.ClaimJoined
import GoSem.ClaimMapViews
import Derived.JoinedTies
import Derived.KernelRfl
namespace Go.Proofs.Qxb6615030a
/- THE CELL 'sum', in the pinned program and in every row, IS THE sha256 OF THE DUMP (.gsa) THAT Qxb6615030aProg.lean LOADS. Nothing in Lean hashes anything: it is a label: what it is worth is what the hold of that sum in a sandbox is worth. -/
noncomputable def Try.pinned : Pinned := { name := "qxb6615030a", sum := "9a51814aa9fd45862d608181f95b7ec456ce463cdd095bd0c8ab207eb40629d7", checked := Try.checked }
namespace Rows
def none {H : Type} : Left H := { results := [], args := [] }

/-- 'zzlaws_api_b1.FnCheckCARefusalSplitsInTwo': WHATEVER THE INPUT: true; the input reads as it did. -/
def fnCheckCARefusalSplitsInTwoSpec : ChangeSpec := { name := "fnCheckCARefusalSplitsInTwo", fn := fun _ => fun
  | [d1, d2, d3] => { results := [.lit (.bool true)], args := [d1, d2, d3] }
  | _ => none }
def fnCheckCARefusalSplitsInTwoRow : OpenClaim := { program := "qxb6615030a", sum := "9a51814aa9fd45862d608181f95b7ec456ce463cdd095bd0c8ab207eb40629d7", func := "example.com/countersign/countersign/zzlaws_api_b1.FnCheckCARefusalSplitsInTwo", spec := "fnCheckCARefusalSplitsInTwo", apart := false }
def FnCheckCARefusalSplitsInTwoSaid : Prop := fnCheckCARefusalSplitsInTwoRow.holds Try.pinned (OpenSpec.ofChange fnCheckCARefusalSplitsInTwoSpec)

/-- ITS FALSE NEIGHBOUR: 'it returns false'. Refute it at one input. -/
def fnCheckCARefusalSplitsInTwoWrong : ChangeSpec := { name := "fnCheckCARefusalSplitsInTwo", fn := fun _ => fun
  | [d1, d2, d3] => { results := [.lit (.bool false)], args := [d1, d2, d3] }
  | _ => none }
def FnCheckCARefusalSplitsInTwoWrongFalsely : Prop := fnCheckCARefusalSplitsInTwoRow.holds Try.pinned (OpenSpec.ofChange fnCheckCARefusalSplitsInTwoWrong)

/-- 'zzlaws_api_b1.FnCheckCAUsageCountsOnlyCertSign': WHATEVER THE INPUT: true; the input reads as it did. -/
def fnCheckCAUsageCountsOnlyCertSignSpec : ChangeSpec := { name := "fnCheckCAUsageCountsOnlyCertSign", fn := fun _ => fun
  | [d1, d2, d3, d4] => { results := [.lit (.bool true)], args := [d1, d2, d3, d4] }
  | _ => none }
def fnCheckCAUsageCountsOnlyCertSignRow : OpenClaim := { program := "qxb6615030a", sum := "9a51814aa9fd45862d608181f95b7ec456ce463cdd095bd0c8ab207eb40629d7", func := "example.com/countersign/countersign/zzlaws_api_b1.FnCheckCAUsageCountsOnlyCertSign", spec := "fnCheckCAUsageCountsOnlyCertSign", apart := false }
def FnCheckCAUsageCountsOnlyCertSignSaid : Prop := fnCheckCAUsageCountsOnlyCertSignRow.holds Try.pinned (OpenSpec.ofChange fnCheckCAUsageCountsOnlyCertSignSpec)

/-- ITS FALSE NEIGHBOUR: 'it returns false'. Refute it at one input. -/
def fnCheckCAUsageCountsOnlyCertSignWrong : ChangeSpec := { name := "fnCheckCAUsageCountsOnlyCertSign", fn := fun _ => fun
  | [d1, d2, d3, d4] => { results := [.lit (.bool false)], args := [d1, d2, d3, d4] }
  | _ => none }
def FnCheckCAUsageCountsOnlyCertSignWrongFalsely : Prop := fnCheckCAUsageCountsOnlyCertSignRow.holds Try.pinned (OpenSpec.ofChange fnCheckCAUsageCountsOnlyCertSignWrong)

/-- 'zzlaws_api_b1.FnSubjectValuesSplitsAtAnyCut': WHATEVER THE INPUT: true; the input reads as it did. -/
def fnSubjectValuesSplitsAtAnyCutSpec : ChangeSpec := { name := "fnSubjectValuesSplitsAtAnyCut", fn := fun _ => fun
  | [d1, d2, d3, d4, d5] => { results := [.lit (.bool true)], args := [d1, d2, d3, d4, d5] }
  | _ => none }
def fnSubjectValuesSplitsAtAnyCutRow : OpenClaim := { program := "qxb6615030a", sum := "9a51814aa9fd45862d608181f95b7ec456ce463cdd095bd0c8ab207eb40629d7", func := "example.com/countersign/countersign/zzlaws_api_b1.FnSubjectValuesSplitsAtAnyCut", spec := "fnSubjectValuesSplitsAtAnyCut", apart := false }
def FnSubjectValuesSplitsAtAnyCutSaid : Prop := fnSubjectValuesSplitsAtAnyCutRow.holds Try.pinned (OpenSpec.ofChange fnSubjectValuesSplitsAtAnyCutSpec)

/-- ITS FALSE NEIGHBOUR: 'it returns false'. Refute it at one input. -/
def fnSubjectValuesSplitsAtAnyCutWrong : ChangeSpec := { name := "fnSubjectValuesSplitsAtAnyCut", fn := fun _ => fun
  | [d1, d2, d3, d4, d5] => { results := [.lit (.bool false)], args := [d1, d2, d3, d4, d5] }
  | _ => none }
def FnSubjectValuesSplitsAtAnyCutWrongFalsely : Prop := fnSubjectValuesSplitsAtAnyCutRow.holds Try.pinned (OpenSpec.ofChange fnSubjectValuesSplitsAtAnyCutWrong)

/-- 'zzlaws_api_b1.FnSubjectValuesInsertOneAttribute': WHATEVER THE INPUT: true; the input reads as it did. -/
def fnSubjectValuesInsertOneAttributeSpec : ChangeSpec := { name := "fnSubjectValuesInsertOneAttribute", fn := fun _ => fun
  | [d1, d2, d3, d4, d5, d6, d7] => { results := [.lit (.bool true)], args := [d1, d2, d3, d4, d5, d6, d7] }
  | _ => none }
def fnSubjectValuesInsertOneAttributeRow : OpenClaim := { program := "qxb6615030a", sum := "9a51814aa9fd45862d608181f95b7ec456ce463cdd095bd0c8ab207eb40629d7", func := "example.com/countersign/countersign/zzlaws_api_b1.FnSubjectValuesInsertOneAttribute", spec := "fnSubjectValuesInsertOneAttribute", apart := false }
def FnSubjectValuesInsertOneAttributeSaid : Prop := fnSubjectValuesInsertOneAttributeRow.holds Try.pinned (OpenSpec.ofChange fnSubjectValuesInsertOneAttributeSpec)

/-- ITS FALSE NEIGHBOUR: 'it returns false'. Refute it at one input. -/
def fnSubjectValuesInsertOneAttributeWrong : ChangeSpec := { name := "fnSubjectValuesInsertOneAttribute", fn := fun _ => fun
  | [d1, d2, d3, d4, d5, d6, d7] => { results := [.lit (.bool false)], args := [d1, d2, d3, d4, d5, d6, d7] }
  | _ => none }
def FnSubjectValuesInsertOneAttributeWrongFalsely : Prop := fnSubjectValuesInsertOneAttributeRow.holds Try.pinned (OpenSpec.ofChange fnSubjectValuesInsertOneAttributeWrong)

end Rows
end Go.Proofs.Qxb6615030a

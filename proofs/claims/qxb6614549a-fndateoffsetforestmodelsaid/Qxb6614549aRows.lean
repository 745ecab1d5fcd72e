/-
  No cell of these rows narrows 'for every input' (looked for: loops, veiled, ifaces, maps, wideKeys, modest, calm, conditions, laid).
  DERIVED. THE GIVEN ROWS OF THIS SEAT. 4 by the template 'for every input the law returns true; each argument reads behind the call as it read before'; 0 by the template 'total and deterministic' (their statements: Qxb6614549aTotals.lean).
  GIVEN WITH THE SEED: the statements are not yours to turn. If you find one false, say at which input.
  Laid BY PROGRAM, IN A SANDBOX (cutbox-rows.mjs): the forced cells as the released guide's own fill.sh prints them over the translation a904672226c619dd… (all of the seat's roots in one cut). By AI agents, Wed Nov 11 2026. No macro, syntax, notation, axiom, sorry.
-/
import Derived.Test.Qxb6614549aChecked
import GoSem.Claim
import GoSem.ClaimJoined
import GoSem.ClaimMapViews
import Derived.JoinedTies
import Derived.KernelRfl
namespace Go.Proofs.Qxb6614549a
/- THE CELL 'sum', in the pinned program and in every row, IS THE sha256 OF THE DUMP (.gsa) THAT Qxb6614549aProg.lean LOADS. Nothing in Lean hashes anything: it is a label: what it is worth is what the hold of that sum in a sandbox is worth. -/
noncomputable def Try.pinned : Pinned := { name := "qxb6614549a", sum := "a904672226c619ddaa937cd0a8d0d55782feb0475c0d39be4d99113050e70e44", checked := Try.checked }
namespace Rows
def none {H : Type} : Left H := { results := [], args := [] }

/-- 'zzlaws_root_b1.FnNewBlockCacheShiftByBlocks': WHATEVER THE INPUT: true; the input reads as it did. -/
def fnNewBlockCacheShiftByBlocksSpec : ChangeSpec := { name := "fnNewBlockCacheShiftByBlocks", fn := fun _ => fun
  | [d1, d2] => { results := [.lit (.bool true)], args := [d1, d2] }
  | _ => none }
def fnNewBlockCacheShiftByBlocksRow : OpenClaim := { program := "qxb6614549a", sum := "a904672226c619ddaa937cd0a8d0d55782feb0475c0d39be4d99113050e70e44", func := "example.com/kinship/kinship/zzlaws_root_b1.FnNewBlockCacheShiftByBlocks", spec := "fnNewBlockCacheShiftByBlocks", apart := false }
def FnNewBlockCacheShiftByBlocksSaid : Prop := fnNewBlockCacheShiftByBlocksRow.holds Try.pinned (OpenSpec.ofChange fnNewBlockCacheShiftByBlocksSpec)

/-- ITS FALSE NEIGHBOUR: 'it returns false'. Refute it at one input. -/
def fnNewBlockCacheShiftByBlocksWrong : ChangeSpec := { name := "fnNewBlockCacheShiftByBlocks", fn := fun _ => fun
  | [d1, d2] => { results := [.lit (.bool false)], args := [d1, d2] }
  | _ => none }
def FnNewBlockCacheShiftByBlocksWrongFalsely : Prop := fnNewBlockCacheShiftByBlocksRow.holds Try.pinned (OpenSpec.ofChange fnNewBlockCacheShiftByBlocksWrong)

/-- 'zzlaws_root_b1.FnNewBlockCacheLeastWholeBlocks': WHATEVER THE INPUT: true; the input reads as it did. -/
def fnNewBlockCacheLeastWholeBlocksSpec : ChangeSpec := { name := "fnNewBlockCacheLeastWholeBlocks", fn := fun _ => fun
  | [d] => { results := [.lit (.bool true)], args := [d] }
  | _ => none }
def fnNewBlockCacheLeastWholeBlocksRow : OpenClaim := { program := "qxb6614549a", sum := "a904672226c619ddaa937cd0a8d0d55782feb0475c0d39be4d99113050e70e44", func := "example.com/kinship/kinship/zzlaws_root_b1.FnNewBlockCacheLeastWholeBlocks", spec := "fnNewBlockCacheLeastWholeBlocks", apart := false }
def FnNewBlockCacheLeastWholeBlocksSaid : Prop := fnNewBlockCacheLeastWholeBlocksRow.holds Try.pinned (OpenSpec.ofChange fnNewBlockCacheLeastWholeBlocksSpec)

/-- ITS FALSE NEIGHBOUR: 'it returns false'. Refute it at one input. -/
def fnNewBlockCacheLeastWholeBlocksWrong : ChangeSpec := { name := "fnNewBlockCacheLeastWholeBlocks", fn := fun _ => fun
  | [d] => { results := [.lit (.bool false)], args := [d] }
  | _ => none }
def FnNewBlockCacheLeastWholeBlocksWrongFalsely : Prop := fnNewBlockCacheLeastWholeBlocksRow.holds Try.pinned (OpenSpec.ofChange fnNewBlockCacheLeastWholeBlocksWrong)

/-- 'zzlaws_root_b1.FnDateOffsetForestModel': WHATEVER THE INPUT: true; the input reads as it did. -/
def fnDateOffsetForestModelSpec : ChangeSpec := { name := "fnDateOffsetForestModel", fn := fun _ => fun
  | [d1, d2] => { results := [.lit (.bool true)], args := [d1, d2] }
  | _ => none }
def fnDateOffsetForestModelRow : OpenClaim := { program := "qxb6614549a", sum := "a904672226c619ddaa937cd0a8d0d55782feb0475c0d39be4d99113050e70e44", func := "example.com/kinship/kinship/zzlaws_root_b1.FnDateOffsetForestModel", spec := "fnDateOffsetForestModel", apart := false }
def FnDateOffsetForestModelSaid : Prop := fnDateOffsetForestModelRow.holds Try.pinned (OpenSpec.ofChange fnDateOffsetForestModelSpec)

/-- ITS FALSE NEIGHBOUR: 'it returns false'. Refute it at one input. -/
def fnDateOffsetForestModelWrong : ChangeSpec := { name := "fnDateOffsetForestModel", fn := fun _ => fun
  | [d1, d2] => { results := [.lit (.bool false)], args := [d1, d2] }
  | _ => none }
def FnDateOffsetForestModelWrongFalsely : Prop := fnDateOffsetForestModelRow.holds Try.pinned (OpenSpec.ofChange fnDateOffsetForestModelWrong)

/-- 'zzlaws_root_b1.FnDateOffsetSameSecondChain': WHATEVER THE INPUT: true; the input reads as it did. -/
def fnDateOffsetSameSecondChainSpec : ChangeSpec := { name := "fnDateOffsetSameSecondChain", fn := fun _ => fun
  | [d1, d2] => { results := [.lit (.bool true)], args := [d1, d2] }
  | _ => none }
def fnDateOffsetSameSecondChainRow : OpenClaim := { program := "qxb6614549a", sum := "a904672226c619ddaa937cd0a8d0d55782feb0475c0d39be4d99113050e70e44", func := "example.com/kinship/kinship/zzlaws_root_b1.FnDateOffsetSameSecondChain", spec := "fnDateOffsetSameSecondChain", apart := false }
def FnDateOffsetSameSecondChainSaid : Prop := fnDateOffsetSameSecondChainRow.holds Try.pinned (OpenSpec.ofChange fnDateOffsetSameSecondChainSpec)

/-- ITS FALSE NEIGHBOUR: 'it returns false'. Refute it at one input. -/
def fnDateOffsetSameSecondChainWrong : ChangeSpec := { name := "fnDateOffsetSameSecondChain", fn := fun _ => fun
  | [d1, d2] => { results := [.lit (.bool false)], args := [d1, d2] }
  | _ => none }
def FnDateOffsetSameSecondChainWrongFalsely : Prop := fnDateOffsetSameSecondChainRow.holds Try.pinned (OpenSpec.ofChange fnDateOffsetSameSecondChainWrong)

end Rows
end Go.Proofs.Qxb6614549a

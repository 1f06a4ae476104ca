/-
  No cell of these rows narrows 'for every input' (looked for: loops, veiled, ifaces, maps, wideKeys, modest, calm, conditions, laid).
  DERIVED. THE GIVEN ROWS OF THIS SEAT. 6 by the template 'for every input the law returns true; each argument reads behind the call as it read before'; 0 by the template 'total and deterministic' (their statements: Qxb6616022aTotals.lean).
  GIVEN WITH THE SEED: the statements are not yours to turn. If you find one false, say at which input.
  Laid BY PROGRAM, IN A SANDBOX (cutbox-rows.mjs): the forced cells as the released guide's own fill.sh prints them over the translation f3481e0d638a8248… (all of the seat's roots in one cut). By AI agents, Wed Nov 11 2026. No macro, syntax, notation, axiom, sorry.
-/
import Derived.Test.Qxb6616022aChecked
import GoSem.Claim
import GoSem.ClaimJoined
import GoSem.ClaimMapViews
import Derived.JoinedTies
import Derived.KernelRfl
namespace Go.Proofs.Qxb6616022a
/- THE CELL 'sum', in the pinned program and in every row, IS THE sha256 OF THE DUMP (.gsa) THAT Qxb6616022aProg.lean LOADS. Nothing in Lean hashes anything: it is a label: what it is worth is what the hold of that sum in a sandbox is worth. -/
noncomputable def Try.pinned : Pinned := { name := "qxb6616022a", sum := "f3481e0d638a824832b633e4bf46d7045a4bb680d03175a1da33473ea1caa7d3", checked := Try.checked }
namespace Rows
def none {H : Type} : Left H := { results := [], args := [] }

/-- 'zzlaws_internal_parser_b1.FnOrPartsSplitAtAnyCut': WHATEVER THE INPUT: true; the input reads as it did. -/
def fnOrPartsSplitAtAnyCutSpec : ChangeSpec := { name := "fnOrPartsSplitAtAnyCut", fn := fun _ => fun
  | [d1, d2] => { results := [.lit (.bool true)], args := [d1, d2] }
  | _ => none }
def fnOrPartsSplitAtAnyCutRow : OpenClaim := { program := "qxb6616022a", sum := "f3481e0d638a824832b633e4bf46d7045a4bb680d03175a1da33473ea1caa7d3", func := "example.com/latchwork/latchwork/zzlaws_internal_parser_b1.FnOrPartsSplitAtAnyCut", spec := "fnOrPartsSplitAtAnyCut", apart := false }
def FnOrPartsSplitAtAnyCutSaid : Prop := fnOrPartsSplitAtAnyCutRow.holds Try.pinned (OpenSpec.ofChange fnOrPartsSplitAtAnyCutSpec)

/-- ITS FALSE NEIGHBOUR: 'it returns false'. Refute it at one input. -/
def fnOrPartsSplitAtAnyCutWrong : ChangeSpec := { name := "fnOrPartsSplitAtAnyCut", fn := fun _ => fun
  | [d1, d2] => { results := [.lit (.bool false)], args := [d1, d2] }
  | _ => none }
def FnOrPartsSplitAtAnyCutWrongFalsely : Prop := fnOrPartsSplitAtAnyCutRow.holds Try.pinned (OpenSpec.ofChange fnOrPartsSplitAtAnyCutWrong)

/-- 'zzlaws_internal_parser_b1.FnOrPartsNestedOrWalksFlat': WHATEVER THE INPUT: true; the input reads as it did. -/
def fnOrPartsNestedOrWalksFlatSpec : ChangeSpec := { name := "fnOrPartsNestedOrWalksFlat", fn := fun _ => fun
  | [d1, d2] => { results := [.lit (.bool true)], args := [d1, d2] }
  | _ => none }
def fnOrPartsNestedOrWalksFlatRow : OpenClaim := { program := "qxb6616022a", sum := "f3481e0d638a824832b633e4bf46d7045a4bb680d03175a1da33473ea1caa7d3", func := "example.com/latchwork/latchwork/zzlaws_internal_parser_b1.FnOrPartsNestedOrWalksFlat", spec := "fnOrPartsNestedOrWalksFlat", apart := false }
def FnOrPartsNestedOrWalksFlatSaid : Prop := fnOrPartsNestedOrWalksFlatRow.holds Try.pinned (OpenSpec.ofChange fnOrPartsNestedOrWalksFlatSpec)

/-- ITS FALSE NEIGHBOUR: 'it returns false'. Refute it at one input. -/
def fnOrPartsNestedOrWalksFlatWrong : ChangeSpec := { name := "fnOrPartsNestedOrWalksFlat", fn := fun _ => fun
  | [d1, d2] => { results := [.lit (.bool false)], args := [d1, d2] }
  | _ => none }
def FnOrPartsNestedOrWalksFlatWrongFalsely : Prop := fnOrPartsNestedOrWalksFlatRow.holds Try.pinned (OpenSpec.ofChange fnOrPartsNestedOrWalksFlatWrong)

/-- 'zzlaws_internal_parser_b1.FnTextSinceGrowsByGapAndNextToken': WHATEVER THE INPUT: true; the input reads as it did. -/
def fnTextSinceGrowsByGapAndNextTokenSpec : ChangeSpec := { name := "fnTextSinceGrowsByGapAndNextToken", fn := fun _ => fun
  | [d1, d2, d3, d4, d5] => { results := [.lit (.bool true)], args := [d1, d2, d3, d4, d5] }
  | _ => none }
def fnTextSinceGrowsByGapAndNextTokenRow : OpenClaim := { program := "qxb6616022a", sum := "f3481e0d638a824832b633e4bf46d7045a4bb680d03175a1da33473ea1caa7d3", func := "example.com/latchwork/latchwork/zzlaws_internal_parser_b1.FnTextSinceGrowsByGapAndNextToken", spec := "fnTextSinceGrowsByGapAndNextToken", apart := false }
def FnTextSinceGrowsByGapAndNextTokenSaid : Prop := fnTextSinceGrowsByGapAndNextTokenRow.holds Try.pinned (OpenSpec.ofChange fnTextSinceGrowsByGapAndNextTokenSpec)

/-- ITS FALSE NEIGHBOUR: 'it returns false'. Refute it at one input. -/
def fnTextSinceGrowsByGapAndNextTokenWrong : ChangeSpec := { name := "fnTextSinceGrowsByGapAndNextToken", fn := fun _ => fun
  | [d1, d2, d3, d4, d5] => { results := [.lit (.bool false)], args := [d1, d2, d3, d4, d5] }
  | _ => none }
def FnTextSinceGrowsByGapAndNextTokenWrongFalsely : Prop := fnTextSinceGrowsByGapAndNextTokenRow.holds Try.pinned (OpenSpec.ofChange fnTextSinceGrowsByGapAndNextTokenWrong)

/-- 'zzlaws_internal_parser_b1.FnArithPartsSplitAtAnyCut': WHATEVER THE INPUT: true; the input reads as it did. -/
def fnArithPartsSplitAtAnyCutSpec : ChangeSpec := { name := "fnArithPartsSplitAtAnyCut", fn := fun _ => fun
  | [d1, d2] => { results := [.lit (.bool true)], args := [d1, d2] }
  | _ => none }
def fnArithPartsSplitAtAnyCutRow : OpenClaim := { program := "qxb6616022a", sum := "f3481e0d638a824832b633e4bf46d7045a4bb680d03175a1da33473ea1caa7d3", func := "example.com/latchwork/latchwork/zzlaws_internal_parser_b1.FnArithPartsSplitAtAnyCut", spec := "fnArithPartsSplitAtAnyCut", apart := false }
def FnArithPartsSplitAtAnyCutSaid : Prop := fnArithPartsSplitAtAnyCutRow.holds Try.pinned (OpenSpec.ofChange fnArithPartsSplitAtAnyCutSpec)

/-- ITS FALSE NEIGHBOUR: 'it returns false'. Refute it at one input. -/
def fnArithPartsSplitAtAnyCutWrong : ChangeSpec := { name := "fnArithPartsSplitAtAnyCut", fn := fun _ => fun
  | [d1, d2] => { results := [.lit (.bool false)], args := [d1, d2] }
  | _ => none }
def FnArithPartsSplitAtAnyCutWrongFalsely : Prop := fnArithPartsSplitAtAnyCutRow.holds Try.pinned (OpenSpec.ofChange fnArithPartsSplitAtAnyCutWrong)

/-- 'zzlaws_internal_parser_b1.FnArithPartsLeftNestedChainWalksFlat': WHATEVER THE INPUT: true; the input reads as it did. -/
def fnArithPartsLeftNestedChainWalksFlatSpec : ChangeSpec := { name := "fnArithPartsLeftNestedChainWalksFlat", fn := fun _ => fun
  | [d1, d2] => { results := [.lit (.bool true)], args := [d1, d2] }
  | _ => none }
def fnArithPartsLeftNestedChainWalksFlatRow : OpenClaim := { program := "qxb6616022a", sum := "f3481e0d638a824832b633e4bf46d7045a4bb680d03175a1da33473ea1caa7d3", func := "example.com/latchwork/latchwork/zzlaws_internal_parser_b1.FnArithPartsLeftNestedChainWalksFlat", spec := "fnArithPartsLeftNestedChainWalksFlat", apart := false }
def FnArithPartsLeftNestedChainWalksFlatSaid : Prop := fnArithPartsLeftNestedChainWalksFlatRow.holds Try.pinned (OpenSpec.ofChange fnArithPartsLeftNestedChainWalksFlatSpec)

/-- ITS FALSE NEIGHBOUR: 'it returns false'. Refute it at one input. -/
def fnArithPartsLeftNestedChainWalksFlatWrong : ChangeSpec := { name := "fnArithPartsLeftNestedChainWalksFlat", fn := fun _ => fun
  | [d1, d2] => { results := [.lit (.bool false)], args := [d1, d2] }
  | _ => none }
def FnArithPartsLeftNestedChainWalksFlatWrongFalsely : Prop := fnArithPartsLeftNestedChainWalksFlatRow.holds Try.pinned (OpenSpec.ofChange fnArithPartsLeftNestedChainWalksFlatWrong)

/-- 'zzlaws_internal_parser_b1.FnTextSinceCutsAtAnyOffset': WHATEVER THE INPUT: true; the input reads as it did. -/
def fnTextSinceCutsAtAnyOffsetSpec : ChangeSpec := { name := "fnTextSinceCutsAtAnyOffset", fn := fun _ => fun
  | [d1, d2, d3, d4, d5, d6] => { results := [.lit (.bool true)], args := [d1, d2, d3, d4, d5, d6] }
  | _ => none }
def fnTextSinceCutsAtAnyOffsetRow : OpenClaim := { program := "qxb6616022a", sum := "f3481e0d638a824832b633e4bf46d7045a4bb680d03175a1da33473ea1caa7d3", func := "example.com/latchwork/latchwork/zzlaws_internal_parser_b1.FnTextSinceCutsAtAnyOffset", spec := "fnTextSinceCutsAtAnyOffset", apart := false }
def FnTextSinceCutsAtAnyOffsetSaid : Prop := fnTextSinceCutsAtAnyOffsetRow.holds Try.pinned (OpenSpec.ofChange fnTextSinceCutsAtAnyOffsetSpec)

/-- ITS FALSE NEIGHBOUR: 'it returns false'. Refute it at one input. -/
def fnTextSinceCutsAtAnyOffsetWrong : ChangeSpec := { name := "fnTextSinceCutsAtAnyOffset", fn := fun _ => fun
  | [d1, d2, d3, d4, d5, d6] => { results := [.lit (.bool false)], args := [d1, d2, d3, d4, d5, d6] }
  | _ => none }
def FnTextSinceCutsAtAnyOffsetWrongFalsely : Prop := fnTextSinceCutsAtAnyOffsetRow.holds Try.pinned (OpenSpec.ofChange fnTextSinceCutsAtAnyOffsetWrong)

end Rows
end Go.Proofs.Qxb6616022a

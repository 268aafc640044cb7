/-
  No cell of these rows narrows 'for every input' (looked for: loops, veiled, ifaces, maps, wideKeys, modest, calm, conditions, laid).
  DERIVED. THE GIVEN ROWS OF THIS SEAT. 5 by the template 'for every input the law returns true; each argument reads behind the call as it read before'; 0 by the template 'total and deterministic' (their statements: Qxb6615076aTotals.lean).
  GIVEN WITH THE SEED: the statements are not yours to turn. If you find one false, say at which input.
  Laid BY PROGRAM, IN A SANDBOX (cutbox-rows.mjs): the forced cells as the released guide's own fill.sh prints them over the translation 468bec13a78d7f23… (all of the seat's roots in one cut). By AI agents, Wed Nov 11 2026. No macro, syntax, notation, axiom, sorry.
-/
import Derived.Test.Qxb6615076aChecked
import GoSem.Claim
import GoSem.ClaimJoined
import GoSem.ClaimMapViews
import Derived.JoinedTies
import Derived.KernelRfl
namespace Go.Proofs.Qxb6615076a
/- THE CELL 'sum', in the pinned program and in every row, IS THE sha256 OF THE DUMP (.gsa) THAT Qxb6615076aProg.lean LOADS. Nothing in Lean hashes anything: it is a label: what it is worth is what the hold of that sum in a sandbox is worth. -/
noncomputable def Try.pinned : Pinned := { name := "qxb6615076a", sum := "468bec13a78d7f23d7e5bdc6c6aa342f9e96440cd1d5a5cab2d658da2c9ddd3c", checked := Try.checked }
namespace Rows
def none {H : Type} : Left H := { results := [], args := [] }

/-- 'zzlaws_internal_delta_b1.FnBlocksLeastCoverAndShift': WHATEVER THE INPUT: true; the input reads as it did. -/
def fnBlocksLeastCoverAndShiftSpec : ChangeSpec := { name := "fnBlocksLeastCoverAndShift", fn := fun _ => fun
  | [d1, d2, d3] => { results := [.lit (.bool true)], args := [d1, d2, d3] }
  | _ => none }
def fnBlocksLeastCoverAndShiftRow : OpenClaim := { program := "qxb6615076a", sum := "468bec13a78d7f23d7e5bdc6c6aa342f9e96440cd1d5a5cab2d658da2c9ddd3c", func := "example.com/syncline/syncline/zzlaws_internal_delta_b1.FnBlocksLeastCoverAndShift", spec := "fnBlocksLeastCoverAndShift", apart := false }
def FnBlocksLeastCoverAndShiftSaid : Prop := fnBlocksLeastCoverAndShiftRow.holds Try.pinned (OpenSpec.ofChange fnBlocksLeastCoverAndShiftSpec)

/-- ITS FALSE NEIGHBOUR: 'it returns false'. Refute it at one input. -/
def fnBlocksLeastCoverAndShiftWrong : ChangeSpec := { name := "fnBlocksLeastCoverAndShift", fn := fun _ => fun
  | [d1, d2, d3] => { results := [.lit (.bool false)], args := [d1, d2, d3] }
  | _ => none }
def FnBlocksLeastCoverAndShiftWrongFalsely : Prop := fnBlocksLeastCoverAndShiftRow.holds Try.pinned (OpenSpec.ofChange fnBlocksLeastCoverAndShiftWrong)

/-- 'zzlaws_internal_delta_b1.FnBlocksWholePlusShortTail': WHATEVER THE INPUT: true; the input reads as it did. -/
def fnBlocksWholePlusShortTailSpec : ChangeSpec := { name := "fnBlocksWholePlusShortTail", fn := fun _ => fun
  | [d1, d2] => { results := [.lit (.bool true)], args := [d1, d2] }
  | _ => none }
def fnBlocksWholePlusShortTailRow : OpenClaim := { program := "qxb6615076a", sum := "468bec13a78d7f23d7e5bdc6c6aa342f9e96440cd1d5a5cab2d658da2c9ddd3c", func := "example.com/syncline/syncline/zzlaws_internal_delta_b1.FnBlocksWholePlusShortTail", spec := "fnBlocksWholePlusShortTail", apart := false }
def FnBlocksWholePlusShortTailSaid : Prop := fnBlocksWholePlusShortTailRow.holds Try.pinned (OpenSpec.ofChange fnBlocksWholePlusShortTailSpec)

/-- ITS FALSE NEIGHBOUR: 'it returns false'. Refute it at one input. -/
def fnBlocksWholePlusShortTailWrong : ChangeSpec := { name := "fnBlocksWholePlusShortTail", fn := fun _ => fun
  | [d1, d2] => { results := [.lit (.bool false)], args := [d1, d2] }
  | _ => none }
def FnBlocksWholePlusShortTailWrongFalsely : Prop := fnBlocksWholePlusShortTailRow.holds Try.pinned (OpenSpec.ofChange fnBlocksWholePlusShortTailWrong)

/-- 'zzlaws_internal_delta_b1.FnNewDifferTableFindsFirstOfEachBlock': WHATEVER THE INPUT: true; the input reads as it did. -/
def fnNewDifferTableFindsFirstOfEachBlockSpec : ChangeSpec := { name := "fnNewDifferTableFindsFirstOfEachBlock", fn := fun _ => fun
  | [d1, d2, d3, d4, d5] => { results := [.lit (.bool true)], args := [d1, d2, d3, d4, d5] }
  | _ => none }
def fnNewDifferTableFindsFirstOfEachBlockRow : OpenClaim := { program := "qxb6615076a", sum := "468bec13a78d7f23d7e5bdc6c6aa342f9e96440cd1d5a5cab2d658da2c9ddd3c", func := "example.com/syncline/syncline/zzlaws_internal_delta_b1.FnNewDifferTableFindsFirstOfEachBlock", spec := "fnNewDifferTableFindsFirstOfEachBlock", named := ["encoding/binary.BigEndian"], apart := false }
def FnNewDifferTableFindsFirstOfEachBlockSaid : Prop := fnNewDifferTableFindsFirstOfEachBlockRow.holds Try.pinned (OpenSpec.ofChange fnNewDifferTableFindsFirstOfEachBlockSpec)

/-- ITS FALSE NEIGHBOUR: 'it returns false'. Refute it at one input. -/
def fnNewDifferTableFindsFirstOfEachBlockWrong : ChangeSpec := { name := "fnNewDifferTableFindsFirstOfEachBlock", fn := fun _ => fun
  | [d1, d2, d3, d4, d5] => { results := [.lit (.bool false)], args := [d1, d2, d3, d4, d5] }
  | _ => none }
def FnNewDifferTableFindsFirstOfEachBlockWrongFalsely : Prop := fnNewDifferTableFindsFirstOfEachBlockRow.holds Try.pinned (OpenSpec.ofChange fnNewDifferTableFindsFirstOfEachBlockWrong)

/-- 'zzlaws_internal_delta_b1.FnNewDifferPowIsBaseToBlockSize': WHATEVER THE INPUT: true; the input reads as it did. -/
def fnNewDifferPowIsBaseToBlockSizeSpec : ChangeSpec := { name := "fnNewDifferPowIsBaseToBlockSize", fn := fun _ => fun
  | [d1, d2, d3, d4, d5] => { results := [.lit (.bool true)], args := [d1, d2, d3, d4, d5] }
  | _ => none }
def fnNewDifferPowIsBaseToBlockSizeRow : OpenClaim := { program := "qxb6615076a", sum := "468bec13a78d7f23d7e5bdc6c6aa342f9e96440cd1d5a5cab2d658da2c9ddd3c", func := "example.com/syncline/syncline/zzlaws_internal_delta_b1.FnNewDifferPowIsBaseToBlockSize", spec := "fnNewDifferPowIsBaseToBlockSize", named := ["encoding/binary.BigEndian"], apart := false }
def FnNewDifferPowIsBaseToBlockSizeSaid : Prop := fnNewDifferPowIsBaseToBlockSizeRow.holds Try.pinned (OpenSpec.ofChange fnNewDifferPowIsBaseToBlockSizeSpec)

/-- ITS FALSE NEIGHBOUR: 'it returns false'. Refute it at one input. -/
def fnNewDifferPowIsBaseToBlockSizeWrong : ChangeSpec := { name := "fnNewDifferPowIsBaseToBlockSize", fn := fun _ => fun
  | [d1, d2, d3, d4, d5] => { results := [.lit (.bool false)], args := [d1, d2, d3, d4, d5] }
  | _ => none }
def FnNewDifferPowIsBaseToBlockSizeWrongFalsely : Prop := fnNewDifferPowIsBaseToBlockSizeRow.holds Try.pinned (OpenSpec.ofChange fnNewDifferPowIsBaseToBlockSizeWrong)

/-- 'zzlaws_internal_delta_b1.FnDifferSumOfFreshIsEmptySHA256': WHATEVER THE INPUT: true; the input reads as it did. -/
def fnDifferSumOfFreshIsEmptySHA256Spec : ChangeSpec := { name := "fnDifferSumOfFreshIsEmptySHA256", fn := fun _ => fun
  | [d1, d2, d3, d4, d5] => { results := [.lit (.bool true)], args := [d1, d2, d3, d4, d5] }
  | _ => none }
def fnDifferSumOfFreshIsEmptySHA256Row : OpenClaim := { program := "qxb6615076a", sum := "468bec13a78d7f23d7e5bdc6c6aa342f9e96440cd1d5a5cab2d658da2c9ddd3c", func := "example.com/syncline/syncline/zzlaws_internal_delta_b1.FnDifferSumOfFreshIsEmptySHA256", spec := "fnDifferSumOfFreshIsEmptySHA256", unfollowed := true, recurses := true, named := ["encoding/binary.BigEndian"], apart := false }
def FnDifferSumOfFreshIsEmptySHA256Said : Prop := fnDifferSumOfFreshIsEmptySHA256Row.holds Try.pinned (OpenSpec.ofChange fnDifferSumOfFreshIsEmptySHA256Spec)

/-- ITS FALSE NEIGHBOUR: 'it returns false'. Refute it at one input. -/
def fnDifferSumOfFreshIsEmptySHA256Wrong : ChangeSpec := { name := "fnDifferSumOfFreshIsEmptySHA256", fn := fun _ => fun
  | [d1, d2, d3, d4, d5] => { results := [.lit (.bool false)], args := [d1, d2, d3, d4, d5] }
  | _ => none }
def FnDifferSumOfFreshIsEmptySHA256WrongFalsely : Prop := fnDifferSumOfFreshIsEmptySHA256Row.holds Try.pinned (OpenSpec.ofChange fnDifferSumOfFreshIsEmptySHA256Wrong)

end Rows
end Go.Proofs.Qxb6615076a

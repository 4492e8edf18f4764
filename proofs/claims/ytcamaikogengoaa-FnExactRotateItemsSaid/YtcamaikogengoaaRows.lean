/-
  No cell of these rows narrows 'for every input' (looked for: loops, veiled, ifaces, maps, wideKeys, modest, calm, conditions, laid).
  DERIVED. THE GIVEN ROWS OF THIS SEAT. 26 by the template 'for every input the law returns true; each argument reads behind the call as it read before'; 0 by the template 'total and deterministic' (their statements: YtcamaikogengoaaTotals.lean).
  GIVEN WITH THE SEED: the statements are not yours to turn. If you find one false, say at which input.
  Laid BY PROGRAM, IN A SANDBOX (cutbox-rows.mjs): the forced cells as the released guide's own fill.sh prints them over the translation 9a4f3aadd8c70115… (all of the seat's roots in one cut). By AI agents, Wed Nov 11 2026. No macro, syntax, notation, axiom, sorry.
-/
import Derived.Test.YtcamaikogengoaaChecked
import GoSem.Claim
import GoSem.ClaimJoined
import GoSem.ClaimMapViews
import Derived.JoinedTies
import Derived.KernelRfl
namespace Go.Proofs.Ytcamaikogengoaa
/- THE CELL 'sum', in the pinned program and in every row, IS THE sha256 OF THE DUMP (.gsa) THAT YtcamaikogengoaaProg.lean LOADS. Nothing in Lean hashes anything: it is a label: what it is worth is what the hold of that sum in a sandbox is worth. -/
noncomputable def Try.pinned : Pinned := { name := "ytcamaikogengoaa", sum := "9a4f3aadd8c701158f6ce2a21feaa053c5f0f499db9138aec1f97ed646a09491", checked := Try.checked }
namespace Rows
def none {H : Type} : Left H := { results := [], args := [] }

/-- 'laws.FnExactRandom': WHATEVER THE INPUT: true; the input reads as it did. -/
def fnExactRandomSpec : ChangeSpec := { name := "fnExactRandom", fn := fun _ => fun
  | [d1, d2] => { results := [.lit (.bool true)], args := [d1, d2] }
  | _ => none }
def fnExactRandomRow : OpenClaim := { program := "ytcamaikogengoaa", sum := "9a4f3aadd8c701158f6ce2a21feaa053c5f0f499db9138aec1f97ed646a09491", func := "loop.example/pub-sortpieces/laws.FnExactRandom", spec := "fnExactRandom", apart := false }
def FnExactRandomSaid : Prop := fnExactRandomRow.holds Try.pinned (OpenSpec.ofChange fnExactRandomSpec)

/-- ITS FALSE NEIGHBOUR: 'it returns false'. Refute it at one input. -/
def fnExactRandomWrong : ChangeSpec := { name := "fnExactRandom", fn := fun _ => fun
  | [d1, d2] => { results := [.lit (.bool false)], args := [d1, d2] }
  | _ => none }
def FnExactRandomWrongFalsely : Prop := fnExactRandomRow.holds Try.pinned (OpenSpec.ofChange fnExactRandomWrong)

/-- 'laws.FnExactMedian': WHATEVER THE INPUT: true; the input reads as it did. -/
def fnExactMedianSpec : ChangeSpec := { name := "fnExactMedian", fn := fun _ => fun
  | [d1, d2, d3, d4] => { results := [.lit (.bool true)], args := [d1, d2, d3, d4] }
  | _ => none }
def fnExactMedianRow : OpenClaim := { program := "ytcamaikogengoaa", sum := "9a4f3aadd8c701158f6ce2a21feaa053c5f0f499db9138aec1f97ed646a09491", func := "loop.example/pub-sortpieces/laws.FnExactMedian", spec := "fnExactMedian", apart := false }
def FnExactMedianSaid : Prop := fnExactMedianRow.holds Try.pinned (OpenSpec.ofChange fnExactMedianSpec)

/-- ITS FALSE NEIGHBOUR: 'it returns false'. Refute it at one input. -/
def fnExactMedianWrong : ChangeSpec := { name := "fnExactMedian", fn := fun _ => fun
  | [d1, d2, d3, d4] => { results := [.lit (.bool false)], args := [d1, d2, d3, d4] }
  | _ => none }
def FnExactMedianWrongFalsely : Prop := fnExactMedianRow.holds Try.pinned (OpenSpec.ofChange fnExactMedianWrong)

/-- 'laws.FnRoads': WHATEVER THE INPUT: true; the input reads as it did. -/
def fnRoadsSpec : ChangeSpec := { name := "fnRoads", fn := fun _ => fun
  | [d1, d2, d3, d4] => { results := [.lit (.bool true)], args := [d1, d2, d3, d4] }
  | _ => none }
def fnRoadsRow : OpenClaim := { program := "ytcamaikogengoaa", sum := "9a4f3aadd8c701158f6ce2a21feaa053c5f0f499db9138aec1f97ed646a09491", func := "loop.example/pub-sortpieces/laws.FnRoads", spec := "fnRoads", recurses := true, apart := false }
def FnRoadsSaid : Prop := fnRoadsRow.holds Try.pinned (OpenSpec.ofChange fnRoadsSpec)

/-- ITS FALSE NEIGHBOUR: 'it returns false'. Refute it at one input. -/
def fnRoadsWrong : ChangeSpec := { name := "fnRoads", fn := fun _ => fun
  | [d1, d2, d3, d4] => { results := [.lit (.bool false)], args := [d1, d2, d3, d4] }
  | _ => none }
def FnRoadsWrongFalsely : Prop := fnRoadsRow.holds Try.pinned (OpenSpec.ofChange fnRoadsWrong)

/-- 'laws.FnExactSwap': WHATEVER THE INPUT: true; the input reads as it did. -/
def fnExactSwapSpec : ChangeSpec := { name := "fnExactSwap", fn := fun _ => fun
  | [d1, d2, d3, d4] => { results := [.lit (.bool true)], args := [d1, d2, d3, d4] }
  | _ => none }
def fnExactSwapRow : OpenClaim := { program := "ytcamaikogengoaa", sum := "9a4f3aadd8c701158f6ce2a21feaa053c5f0f499db9138aec1f97ed646a09491", func := "loop.example/pub-sortpieces/laws.FnExactSwap", spec := "fnExactSwap", apart := false }
def FnExactSwapSaid : Prop := fnExactSwapRow.holds Try.pinned (OpenSpec.ofChange fnExactSwapSpec)

/-- ITS FALSE NEIGHBOUR: 'it returns false'. Refute it at one input. -/
def fnExactSwapWrong : ChangeSpec := { name := "fnExactSwap", fn := fun _ => fun
  | [d1, d2, d3, d4] => { results := [.lit (.bool false)], args := [d1, d2, d3, d4] }
  | _ => none }
def FnExactSwapWrongFalsely : Prop := fnExactSwapRow.holds Try.pinned (OpenSpec.ofChange fnExactSwapWrong)

/-- 'laws.FnExactReverse': WHATEVER THE INPUT: true; the input reads as it did. -/
def fnExactReverseSpec : ChangeSpec := { name := "fnExactReverse", fn := fun _ => fun
  | [d1, d2, d3] => { results := [.lit (.bool true)], args := [d1, d2, d3] }
  | _ => none }
def fnExactReverseRow : OpenClaim := { program := "ytcamaikogengoaa", sum := "9a4f3aadd8c701158f6ce2a21feaa053c5f0f499db9138aec1f97ed646a09491", func := "loop.example/pub-sortpieces/laws.FnExactReverse", spec := "fnExactReverse", apart := false }
def FnExactReverseSaid : Prop := fnExactReverseRow.holds Try.pinned (OpenSpec.ofChange fnExactReverseSpec)

/-- ITS FALSE NEIGHBOUR: 'it returns false'. Refute it at one input. -/
def fnExactReverseWrong : ChangeSpec := { name := "fnExactReverse", fn := fun _ => fun
  | [d1, d2, d3] => { results := [.lit (.bool false)], args := [d1, d2, d3] }
  | _ => none }
def FnExactReverseWrongFalsely : Prop := fnExactReverseRow.holds Try.pinned (OpenSpec.ofChange fnExactReverseWrong)

/-- 'laws.FnPower': WHATEVER THE INPUT: true; the input reads as it did. -/
def fnPowerSpec : ChangeSpec := { name := "fnPower", fn := fun _ => fun
  | [d] => { results := [.lit (.bool true)], args := [d] }
  | _ => none }
def fnPowerRow : OpenClaim := { program := "ytcamaikogengoaa", sum := "9a4f3aadd8c701158f6ce2a21feaa053c5f0f499db9138aec1f97ed646a09491", func := "loop.example/pub-sortpieces/laws.FnPower", spec := "fnPower", apart := false }
def FnPowerSaid : Prop := fnPowerRow.holds Try.pinned (OpenSpec.ofChange fnPowerSpec)

/-- ITS FALSE NEIGHBOUR: 'it returns false'. Refute it at one input. -/
def fnPowerWrong : ChangeSpec := { name := "fnPower", fn := fun _ => fun
  | [d] => { results := [.lit (.bool false)], args := [d] }
  | _ => none }
def FnPowerWrongFalsely : Prop := fnPowerRow.holds Try.pinned (OpenSpec.ofChange fnPowerWrong)

/-- 'laws.FnPdqItems': WHATEVER THE INPUT: true; the input reads as it did. -/
def fnPdqItemsSpec : ChangeSpec := { name := "fnPdqItems", fn := fun _ => fun
  | [d1, d2, d3, d4] => { results := [.lit (.bool true)], args := [d1, d2, d3, d4] }
  | _ => none }
def fnPdqItemsRow : OpenClaim := { program := "ytcamaikogengoaa", sum := "9a4f3aadd8c701158f6ce2a21feaa053c5f0f499db9138aec1f97ed646a09491", func := "loop.example/pub-sortpieces/laws.FnPdqItems", spec := "fnPdqItems", unfollowed := true, recurses := true, apart := false }
def FnPdqItemsSaid : Prop := fnPdqItemsRow.holds Try.pinned (OpenSpec.ofChange fnPdqItemsSpec)

/-- ITS FALSE NEIGHBOUR: 'it returns false'. Refute it at one input. -/
def fnPdqItemsWrong : ChangeSpec := { name := "fnPdqItems", fn := fun _ => fun
  | [d1, d2, d3, d4] => { results := [.lit (.bool false)], args := [d1, d2, d3, d4] }
  | _ => none }
def FnPdqItemsWrongFalsely : Prop := fnPdqItemsRow.holds Try.pinned (OpenSpec.ofChange fnPdqItemsWrong)

/-- 'laws.FnExactInsertion': WHATEVER THE INPUT: true; the input reads as it did. -/
def fnExactInsertionSpec : ChangeSpec := { name := "fnExactInsertion", fn := fun _ => fun
  | [d1, d2, d3] => { results := [.lit (.bool true)], args := [d1, d2, d3] }
  | _ => none }
def fnExactInsertionRow : OpenClaim := { program := "ytcamaikogengoaa", sum := "9a4f3aadd8c701158f6ce2a21feaa053c5f0f499db9138aec1f97ed646a09491", func := "loop.example/pub-sortpieces/laws.FnExactInsertion", spec := "fnExactInsertion", apart := false }
def FnExactInsertionSaid : Prop := fnExactInsertionRow.holds Try.pinned (OpenSpec.ofChange fnExactInsertionSpec)

/-- ITS FALSE NEIGHBOUR: 'it returns false'. Refute it at one input. -/
def fnExactInsertionWrong : ChangeSpec := { name := "fnExactInsertion", fn := fun _ => fun
  | [d1, d2, d3] => { results := [.lit (.bool false)], args := [d1, d2, d3] }
  | _ => none }
def FnExactInsertionWrongFalsely : Prop := fnExactInsertionRow.holds Try.pinned (OpenSpec.ofChange fnExactInsertionWrong)

/-- 'laws.FnSift': WHATEVER THE INPUT: true; the input reads as it did. -/
def fnSiftSpec : ChangeSpec := { name := "fnSift", fn := fun _ => fun
  | [d1, d2, d3, d4] => { results := [.lit (.bool true)], args := [d1, d2, d3, d4] }
  | _ => none }
def fnSiftRow : OpenClaim := { program := "ytcamaikogengoaa", sum := "9a4f3aadd8c701158f6ce2a21feaa053c5f0f499db9138aec1f97ed646a09491", func := "loop.example/pub-sortpieces/laws.FnSift", spec := "fnSift", recurses := true, apart := false }
def FnSiftSaid : Prop := fnSiftRow.holds Try.pinned (OpenSpec.ofChange fnSiftSpec)

/-- ITS FALSE NEIGHBOUR: 'it returns false'. Refute it at one input. -/
def fnSiftWrong : ChangeSpec := { name := "fnSift", fn := fun _ => fun
  | [d1, d2, d3, d4] => { results := [.lit (.bool false)], args := [d1, d2, d3, d4] }
  | _ => none }
def FnSiftWrongFalsely : Prop := fnSiftRow.holds Try.pinned (OpenSpec.ofChange fnSiftWrong)

/-- 'laws.FnTwins': WHATEVER THE INPUT: true; the input reads as it did. -/
def fnTwinsSpec : ChangeSpec := { name := "fnTwins", fn := fun _ => fun
  | [d1, d2, d3, d4] => { results := [.lit (.bool true)], args := [d1, d2, d3, d4] }
  | _ => none }
def fnTwinsRow : OpenClaim := { program := "ytcamaikogengoaa", sum := "9a4f3aadd8c701158f6ce2a21feaa053c5f0f499db9138aec1f97ed646a09491", func := "loop.example/pub-sortpieces/laws.FnTwins", spec := "fnTwins", unfollowed := true, recurses := true, apart := false }
def FnTwinsSaid : Prop := fnTwinsRow.holds Try.pinned (OpenSpec.ofChange fnTwinsSpec)

/-- ITS FALSE NEIGHBOUR: 'it returns false'. Refute it at one input. -/
def fnTwinsWrong : ChangeSpec := { name := "fnTwins", fn := fun _ => fun
  | [d1, d2, d3, d4] => { results := [.lit (.bool false)], args := [d1, d2, d3, d4] }
  | _ => none }
def FnTwinsWrongFalsely : Prop := fnTwinsRow.holds Try.pinned (OpenSpec.ofChange fnTwinsWrong)

/-- 'laws.FnSiftAll': WHATEVER THE INPUT: true; the input reads as it did. -/
def fnSiftAllSpec : ChangeSpec := { name := "fnSiftAll", fn := fun _ => fun
  | [d1, d2, d3, d4] => { results := [.lit (.bool true)], args := [d1, d2, d3, d4] }
  | _ => none }
def fnSiftAllRow : OpenClaim := { program := "ytcamaikogengoaa", sum := "9a4f3aadd8c701158f6ce2a21feaa053c5f0f499db9138aec1f97ed646a09491", func := "loop.example/pub-sortpieces/laws.FnSiftAll", spec := "fnSiftAll", apart := false }
def FnSiftAllSaid : Prop := fnSiftAllRow.holds Try.pinned (OpenSpec.ofChange fnSiftAllSpec)

/-- ITS FALSE NEIGHBOUR: 'it returns false'. Refute it at one input. -/
def fnSiftAllWrong : ChangeSpec := { name := "fnSiftAll", fn := fun _ => fun
  | [d1, d2, d3, d4] => { results := [.lit (.bool false)], args := [d1, d2, d3, d4] }
  | _ => none }
def FnSiftAllWrongFalsely : Prop := fnSiftAllRow.holds Try.pinned (OpenSpec.ofChange fnSiftAllWrong)

/-- 'laws.FnTwice': WHATEVER THE INPUT: true; the input reads as it did. -/
def fnTwiceSpec : ChangeSpec := { name := "fnTwice", fn := fun _ => fun
  | [d1, d2, d3, d4] => { results := [.lit (.bool true)], args := [d1, d2, d3, d4] }
  | _ => none }
def fnTwiceRow : OpenClaim := { program := "ytcamaikogengoaa", sum := "9a4f3aadd8c701158f6ce2a21feaa053c5f0f499db9138aec1f97ed646a09491", func := "loop.example/pub-sortpieces/laws.FnTwice", spec := "fnTwice", apart := false }
def FnTwiceSaid : Prop := fnTwiceRow.holds Try.pinned (OpenSpec.ofChange fnTwiceSpec)

/-- ITS FALSE NEIGHBOUR: 'it returns false'. Refute it at one input. -/
def fnTwiceWrong : ChangeSpec := { name := "fnTwice", fn := fun _ => fun
  | [d1, d2, d3, d4] => { results := [.lit (.bool false)], args := [d1, d2, d3, d4] }
  | _ => none }
def FnTwiceWrongFalsely : Prop := fnTwiceRow.holds Try.pinned (OpenSpec.ofChange fnTwiceWrong)

/-- 'laws.FnExactInsertionItems': WHATEVER THE INPUT: true; the input reads as it did. -/
def fnExactInsertionItemsSpec : ChangeSpec := { name := "fnExactInsertionItems", fn := fun _ => fun
  | [d1, d2, d3] => { results := [.lit (.bool true)], args := [d1, d2, d3] }
  | _ => none }
def fnExactInsertionItemsRow : OpenClaim := { program := "ytcamaikogengoaa", sum := "9a4f3aadd8c701158f6ce2a21feaa053c5f0f499db9138aec1f97ed646a09491", func := "loop.example/pub-sortpieces/laws.FnExactInsertionItems", spec := "fnExactInsertionItems", unfollowed := true, recurses := true, apart := false }
def FnExactInsertionItemsSaid : Prop := fnExactInsertionItemsRow.holds Try.pinned (OpenSpec.ofChange fnExactInsertionItemsSpec)

/-- ITS FALSE NEIGHBOUR: 'it returns false'. Refute it at one input. -/
def fnExactInsertionItemsWrong : ChangeSpec := { name := "fnExactInsertionItems", fn := fun _ => fun
  | [d1, d2, d3] => { results := [.lit (.bool false)], args := [d1, d2, d3] }
  | _ => none }
def FnExactInsertionItemsWrongFalsely : Prop := fnExactInsertionItemsRow.holds Try.pinned (OpenSpec.ofChange fnExactInsertionItemsWrong)

/-- 'laws.FnChoose': WHATEVER THE INPUT: true; the input reads as it did. -/
def fnChooseSpec : ChangeSpec := { name := "fnChoose", fn := fun _ => fun
  | [d1, d2, d3] => { results := [.lit (.bool true)], args := [d1, d2, d3] }
  | _ => none }
def fnChooseRow : OpenClaim := { program := "ytcamaikogengoaa", sum := "9a4f3aadd8c701158f6ce2a21feaa053c5f0f499db9138aec1f97ed646a09491", func := "loop.example/pub-sortpieces/laws.FnChoose", spec := "fnChoose", apart := false }
def FnChooseSaid : Prop := fnChooseRow.holds Try.pinned (OpenSpec.ofChange fnChooseSpec)

/-- ITS FALSE NEIGHBOUR: 'it returns false'. Refute it at one input. -/
def fnChooseWrong : ChangeSpec := { name := "fnChoose", fn := fun _ => fun
  | [d1, d2, d3] => { results := [.lit (.bool false)], args := [d1, d2, d3] }
  | _ => none }
def FnChooseWrongFalsely : Prop := fnChooseRow.holds Try.pinned (OpenSpec.ofChange fnChooseWrong)

/-- 'laws.FnPartitionEqual': WHATEVER THE INPUT: true; the input reads as it did. -/
def fnPartitionEqualSpec : ChangeSpec := { name := "fnPartitionEqual", fn := fun _ => fun
  | [d1, d2, d3, d4] => { results := [.lit (.bool true)], args := [d1, d2, d3, d4] }
  | _ => none }
def fnPartitionEqualRow : OpenClaim := { program := "ytcamaikogengoaa", sum := "9a4f3aadd8c701158f6ce2a21feaa053c5f0f499db9138aec1f97ed646a09491", func := "loop.example/pub-sortpieces/laws.FnPartitionEqual", spec := "fnPartitionEqual", apart := false }
def FnPartitionEqualSaid : Prop := fnPartitionEqualRow.holds Try.pinned (OpenSpec.ofChange fnPartitionEqualSpec)

/-- ITS FALSE NEIGHBOUR: 'it returns false'. Refute it at one input. -/
def fnPartitionEqualWrong : ChangeSpec := { name := "fnPartitionEqual", fn := fun _ => fun
  | [d1, d2, d3, d4] => { results := [.lit (.bool false)], args := [d1, d2, d3, d4] }
  | _ => none }
def FnPartitionEqualWrongFalsely : Prop := fnPartitionEqualRow.holds Try.pinned (OpenSpec.ofChange fnPartitionEqualWrong)

/-- 'laws.FnExactRotate': WHATEVER THE INPUT: true; the input reads as it did. -/
def fnExactRotateSpec : ChangeSpec := { name := "fnExactRotate", fn := fun _ => fun
  | [d1, d2, d3, d4] => { results := [.lit (.bool true)], args := [d1, d2, d3, d4] }
  | _ => none }
def fnExactRotateRow : OpenClaim := { program := "ytcamaikogengoaa", sum := "9a4f3aadd8c701158f6ce2a21feaa053c5f0f499db9138aec1f97ed646a09491", func := "loop.example/pub-sortpieces/laws.FnExactRotate", spec := "fnExactRotate", apart := false }
def FnExactRotateSaid : Prop := fnExactRotateRow.holds Try.pinned (OpenSpec.ofChange fnExactRotateSpec)

/-- ITS FALSE NEIGHBOUR: 'it returns false'. Refute it at one input. -/
def fnExactRotateWrong : ChangeSpec := { name := "fnExactRotate", fn := fun _ => fun
  | [d1, d2, d3, d4] => { results := [.lit (.bool false)], args := [d1, d2, d3, d4] }
  | _ => none }
def FnExactRotateWrongFalsely : Prop := fnExactRotateRow.holds Try.pinned (OpenSpec.ofChange fnExactRotateWrong)

/-- 'laws.FnExactHeapSort': WHATEVER THE INPUT: true; the input reads as it did. -/
def fnExactHeapSortSpec : ChangeSpec := { name := "fnExactHeapSort", fn := fun _ => fun
  | [d1, d2, d3] => { results := [.lit (.bool true)], args := [d1, d2, d3] }
  | _ => none }
def fnExactHeapSortRow : OpenClaim := { program := "ytcamaikogengoaa", sum := "9a4f3aadd8c701158f6ce2a21feaa053c5f0f499db9138aec1f97ed646a09491", func := "loop.example/pub-sortpieces/laws.FnExactHeapSort", spec := "fnExactHeapSort", apart := false }
def FnExactHeapSortSaid : Prop := fnExactHeapSortRow.holds Try.pinned (OpenSpec.ofChange fnExactHeapSortSpec)

/-- ITS FALSE NEIGHBOUR: 'it returns false'. Refute it at one input. -/
def fnExactHeapSortWrong : ChangeSpec := { name := "fnExactHeapSort", fn := fun _ => fun
  | [d1, d2, d3] => { results := [.lit (.bool false)], args := [d1, d2, d3] }
  | _ => none }
def FnExactHeapSortWrongFalsely : Prop := fnExactHeapSortRow.holds Try.pinned (OpenSpec.ofChange fnExactHeapSortWrong)

/-- 'laws.FnPartition': WHATEVER THE INPUT: true; the input reads as it did. -/
def fnPartitionSpec : ChangeSpec := { name := "fnPartition", fn := fun _ => fun
  | [d1, d2, d3, d4] => { results := [.lit (.bool true)], args := [d1, d2, d3, d4] }
  | _ => none }
def fnPartitionRow : OpenClaim := { program := "ytcamaikogengoaa", sum := "9a4f3aadd8c701158f6ce2a21feaa053c5f0f499db9138aec1f97ed646a09491", func := "loop.example/pub-sortpieces/laws.FnPartition", spec := "fnPartition", apart := false }
def FnPartitionSaid : Prop := fnPartitionRow.holds Try.pinned (OpenSpec.ofChange fnPartitionSpec)

/-- ITS FALSE NEIGHBOUR: 'it returns false'. Refute it at one input. -/
def fnPartitionWrong : ChangeSpec := { name := "fnPartition", fn := fun _ => fun
  | [d1, d2, d3, d4] => { results := [.lit (.bool false)], args := [d1, d2, d3, d4] }
  | _ => none }
def FnPartitionWrongFalsely : Prop := fnPartitionRow.holds Try.pinned (OpenSpec.ofChange fnPartitionWrong)

/-- 'laws.FnAlready': WHATEVER THE INPUT: true; the input reads as it did. -/
def fnAlreadySpec : ChangeSpec := { name := "fnAlready", fn := fun _ => fun
  | [d1, d2, d3, d4] => { results := [.lit (.bool true)], args := [d1, d2, d3, d4] }
  | _ => none }
def fnAlreadyRow : OpenClaim := { program := "ytcamaikogengoaa", sum := "9a4f3aadd8c701158f6ce2a21feaa053c5f0f499db9138aec1f97ed646a09491", func := "loop.example/pub-sortpieces/laws.FnAlready", spec := "fnAlready", apart := false }
def FnAlreadySaid : Prop := fnAlreadyRow.holds Try.pinned (OpenSpec.ofChange fnAlreadySpec)

/-- ITS FALSE NEIGHBOUR: 'it returns false'. Refute it at one input. -/
def fnAlreadyWrong : ChangeSpec := { name := "fnAlready", fn := fun _ => fun
  | [d1, d2, d3, d4] => { results := [.lit (.bool false)], args := [d1, d2, d3, d4] }
  | _ => none }
def FnAlreadyWrongFalsely : Prop := fnAlreadyRow.holds Try.pinned (OpenSpec.ofChange fnAlreadyWrong)

/-- 'laws.FnPartial': WHATEVER THE INPUT: true; the input reads as it did. -/
def fnPartialSpec : ChangeSpec := { name := "fnPartial", fn := fun _ => fun
  | [d1, d2, d3] => { results := [.lit (.bool true)], args := [d1, d2, d3] }
  | _ => none }
def fnPartialRow : OpenClaim := { program := "ytcamaikogengoaa", sum := "9a4f3aadd8c701158f6ce2a21feaa053c5f0f499db9138aec1f97ed646a09491", func := "loop.example/pub-sortpieces/laws.FnPartial", spec := "fnPartial", apart := false }
def FnPartialSaid : Prop := fnPartialRow.holds Try.pinned (OpenSpec.ofChange fnPartialSpec)

/-- ITS FALSE NEIGHBOUR: 'it returns false'. Refute it at one input. -/
def fnPartialWrong : ChangeSpec := { name := "fnPartial", fn := fun _ => fun
  | [d1, d2, d3] => { results := [.lit (.bool false)], args := [d1, d2, d3] }
  | _ => none }
def FnPartialWrongFalsely : Prop := fnPartialRow.holds Try.pinned (OpenSpec.ofChange fnPartialWrong)

/-- 'laws.FnBreak': WHATEVER THE INPUT: true; the input reads as it did. -/
def fnBreakSpec : ChangeSpec := { name := "fnBreak", fn := fun _ => fun
  | [d1, d2, d3] => { results := [.lit (.bool true)], args := [d1, d2, d3] }
  | _ => none }
def fnBreakRow : OpenClaim := { program := "ytcamaikogengoaa", sum := "9a4f3aadd8c701158f6ce2a21feaa053c5f0f499db9138aec1f97ed646a09491", func := "loop.example/pub-sortpieces/laws.FnBreak", spec := "fnBreak", apart := false }
def FnBreakSaid : Prop := fnBreakRow.holds Try.pinned (OpenSpec.ofChange fnBreakSpec)

/-- ITS FALSE NEIGHBOUR: 'it returns false'. Refute it at one input. -/
def fnBreakWrong : ChangeSpec := { name := "fnBreak", fn := fun _ => fun
  | [d1, d2, d3] => { results := [.lit (.bool false)], args := [d1, d2, d3] }
  | _ => none }
def FnBreakWrongFalsely : Prop := fnBreakRow.holds Try.pinned (OpenSpec.ofChange fnBreakWrong)

/-- 'laws.FnExactRotateItems': WHATEVER THE INPUT: true; the input reads as it did. -/
def fnExactRotateItemsSpec : ChangeSpec := { name := "fnExactRotateItems", fn := fun _ => fun
  | [d1, d2, d3, d4] => { results := [.lit (.bool true)], args := [d1, d2, d3, d4] }
  | _ => none }
def fnExactRotateItemsRow : OpenClaim := { program := "ytcamaikogengoaa", sum := "9a4f3aadd8c701158f6ce2a21feaa053c5f0f499db9138aec1f97ed646a09491", func := "loop.example/pub-sortpieces/laws.FnExactRotateItems", spec := "fnExactRotateItems", apart := false }
def FnExactRotateItemsSaid : Prop := fnExactRotateItemsRow.holds Try.pinned (OpenSpec.ofChange fnExactRotateItemsSpec)

/-- ITS FALSE NEIGHBOUR: 'it returns false'. Refute it at one input. -/
def fnExactRotateItemsWrong : ChangeSpec := { name := "fnExactRotateItems", fn := fun _ => fun
  | [d1, d2, d3, d4] => { results := [.lit (.bool false)], args := [d1, d2, d3, d4] }
  | _ => none }
def FnExactRotateItemsWrongFalsely : Prop := fnExactRotateItemsRow.holds Try.pinned (OpenSpec.ofChange fnExactRotateItemsWrong)

/-- 'laws.FnHeapItems': WHATEVER THE INPUT: true; the input reads as it did. -/
def fnHeapItemsSpec : ChangeSpec := { name := "fnHeapItems", fn := fun _ => fun
  | [d1, d2, d3] => { results := [.lit (.bool true)], args := [d1, d2, d3] }
  | _ => none }
def fnHeapItemsRow : OpenClaim := { program := "ytcamaikogengoaa", sum := "9a4f3aadd8c701158f6ce2a21feaa053c5f0f499db9138aec1f97ed646a09491", func := "loop.example/pub-sortpieces/laws.FnHeapItems", spec := "fnHeapItems", unfollowed := true, recurses := true, apart := false }
def FnHeapItemsSaid : Prop := fnHeapItemsRow.holds Try.pinned (OpenSpec.ofChange fnHeapItemsSpec)

/-- ITS FALSE NEIGHBOUR: 'it returns false'. Refute it at one input. -/
def fnHeapItemsWrong : ChangeSpec := { name := "fnHeapItems", fn := fun _ => fun
  | [d1, d2, d3] => { results := [.lit (.bool false)], args := [d1, d2, d3] }
  | _ => none }
def FnHeapItemsWrongFalsely : Prop := fnHeapItemsRow.holds Try.pinned (OpenSpec.ofChange fnHeapItemsWrong)

/-- 'laws.FnExactMergeItems': WHATEVER THE INPUT: true; the input reads as it did. -/
def fnExactMergeItemsSpec : ChangeSpec := { name := "fnExactMergeItems", fn := fun _ => fun
  | [d1, d2, d3, d4] => { results := [.lit (.bool true)], args := [d1, d2, d3, d4] }
  | _ => none }
def fnExactMergeItemsRow : OpenClaim := { program := "ytcamaikogengoaa", sum := "9a4f3aadd8c701158f6ce2a21feaa053c5f0f499db9138aec1f97ed646a09491", func := "loop.example/pub-sortpieces/laws.FnExactMergeItems", spec := "fnExactMergeItems", unfollowed := true, recurses := true, apart := false }
def FnExactMergeItemsSaid : Prop := fnExactMergeItemsRow.holds Try.pinned (OpenSpec.ofChange fnExactMergeItemsSpec)

/-- ITS FALSE NEIGHBOUR: 'it returns false'. Refute it at one input. -/
def fnExactMergeItemsWrong : ChangeSpec := { name := "fnExactMergeItems", fn := fun _ => fun
  | [d1, d2, d3, d4] => { results := [.lit (.bool false)], args := [d1, d2, d3, d4] }
  | _ => none }
def FnExactMergeItemsWrongFalsely : Prop := fnExactMergeItemsRow.holds Try.pinned (OpenSpec.ofChange fnExactMergeItemsWrong)

/-- 'laws.FnExactStableItems': WHATEVER THE INPUT: true; the input reads as it did. -/
def fnExactStableItemsSpec : ChangeSpec := { name := "fnExactStableItems", fn := fun _ => fun
  | [d] => { results := [.lit (.bool true)], args := [d] }
  | _ => none }
def fnExactStableItemsRow : OpenClaim := { program := "ytcamaikogengoaa", sum := "9a4f3aadd8c701158f6ce2a21feaa053c5f0f499db9138aec1f97ed646a09491", func := "loop.example/pub-sortpieces/laws.FnExactStableItems", spec := "fnExactStableItems", unfollowed := true, recurses := true, apart := false }
def FnExactStableItemsSaid : Prop := fnExactStableItemsRow.holds Try.pinned (OpenSpec.ofChange fnExactStableItemsSpec)

/-- ITS FALSE NEIGHBOUR: 'it returns false'. Refute it at one input. -/
def fnExactStableItemsWrong : ChangeSpec := { name := "fnExactStableItems", fn := fun _ => fun
  | [d] => { results := [.lit (.bool false)], args := [d] }
  | _ => none }
def FnExactStableItemsWrongFalsely : Prop := fnExactStableItemsRow.holds Try.pinned (OpenSpec.ofChange fnExactStableItemsWrong)

/-- 'laws.FnExactPdq': WHATEVER THE INPUT: true; the input reads as it did. -/
def fnExactPdqSpec : ChangeSpec := { name := "fnExactPdq", fn := fun _ => fun
  | [d1, d2, d3, d4] => { results := [.lit (.bool true)], args := [d1, d2, d3, d4] }
  | _ => none }
def fnExactPdqRow : OpenClaim := { program := "ytcamaikogengoaa", sum := "9a4f3aadd8c701158f6ce2a21feaa053c5f0f499db9138aec1f97ed646a09491", func := "loop.example/pub-sortpieces/laws.FnExactPdq", spec := "fnExactPdq", recurses := true, apart := false }
def FnExactPdqSaid : Prop := fnExactPdqRow.holds Try.pinned (OpenSpec.ofChange fnExactPdqSpec)

/-- ITS FALSE NEIGHBOUR: 'it returns false'. Refute it at one input. -/
def fnExactPdqWrong : ChangeSpec := { name := "fnExactPdq", fn := fun _ => fun
  | [d1, d2, d3, d4] => { results := [.lit (.bool false)], args := [d1, d2, d3, d4] }
  | _ => none }
def FnExactPdqWrongFalsely : Prop := fnExactPdqRow.holds Try.pinned (OpenSpec.ofChange fnExactPdqWrong)

/- THE SECOND FORM. 'bulk': how many values and letters a reading holds, each counted each time it is reached (what is shared counts as often as it is met; a slice's spare places count too). A statement '..UptoSaid' is the law's where the arguments, and the package variables that the reading takes, are together of bulk at most 1048576: NARROWER than '..Said'. Prove '..Said' where nothing that the law and all that it calls make is longer than what came in: it says more and counts as full. Else prove '..UptoSaid'. A law counts once. -/
mutual
def uptoBulk {H : Type} : DataW H → Nat
  | .lit (.string bytes) => bytes.length + 1
  | .lit _ => 1
  | .nil => 1
  | .ptr d => uptoBulk d + 1
  | .slice elems spare => uptoBulkAll elems + uptoBulkAll spare + 1
  | .agg parts => uptoBulkAll parts + 1
  | .iface _ d => uptoBulk d + 1
  | .map entries => uptoBulkEntries entries + 1
  | .held _ => 1
def uptoBulkAll {H : Type} : List (DataW H) → Nat
  | [] => 0
  | d :: r => uptoBulk d + uptoBulkAll r
def uptoBulkEntries {H : Type} : List (Lit × DataW H) → Nat
  | [] => 0
  | x :: r => uptoBulkEntry x + uptoBulkEntries r
def uptoBulkEntry {H : Type} : Lit × DataW H → Nat
  | (.string bytes, d) => bytes.length + uptoBulk d + 1
  | (_, d) => uptoBulk d + 1
 end
def uptoSmall : (H : Type) → List (DataW H) → Bool := fun _ ds => decide (uptoBulkAll ds ≤ 1048576)
def OpenSpec.upto (s : _root_.Go.ChangeSpec) : _root_.Go.OpenSpec := { _root_.Go.OpenSpec.ofChange s with cond := some uptoSmall }

/-- 'laws.FnExactRandom', WHERE WHAT IT READS IS OF BULK AT MOST 1048576: true; the input reads as it did. -/
def fnExactRandomUptoRow : OpenClaim := { program := "ytcamaikogengoaa", sum := "9a4f3aadd8c701158f6ce2a21feaa053c5f0f499db9138aec1f97ed646a09491", func := "loop.example/pub-sortpieces/laws.FnExactRandom", spec := "fnExactRandom", apart := false, narrowed := true }
def FnExactRandomUptoSaid : Prop := fnExactRandomUptoRow.holds Try.pinned (OpenSpec.upto fnExactRandomSpec)

/-- 'laws.FnExactMedian', WHERE WHAT IT READS IS OF BULK AT MOST 1048576: true; the input reads as it did. -/
def fnExactMedianUptoRow : OpenClaim := { program := "ytcamaikogengoaa", sum := "9a4f3aadd8c701158f6ce2a21feaa053c5f0f499db9138aec1f97ed646a09491", func := "loop.example/pub-sortpieces/laws.FnExactMedian", spec := "fnExactMedian", apart := false, narrowed := true }
def FnExactMedianUptoSaid : Prop := fnExactMedianUptoRow.holds Try.pinned (OpenSpec.upto fnExactMedianSpec)

/-- 'laws.FnRoads', WHERE WHAT IT READS IS OF BULK AT MOST 1048576: true; the input reads as it did. -/
def fnRoadsUptoRow : OpenClaim := { program := "ytcamaikogengoaa", sum := "9a4f3aadd8c701158f6ce2a21feaa053c5f0f499db9138aec1f97ed646a09491", func := "loop.example/pub-sortpieces/laws.FnRoads", spec := "fnRoads", recurses := true, apart := false, narrowed := true }
def FnRoadsUptoSaid : Prop := fnRoadsUptoRow.holds Try.pinned (OpenSpec.upto fnRoadsSpec)

/-- 'laws.FnExactSwap', WHERE WHAT IT READS IS OF BULK AT MOST 1048576: true; the input reads as it did. -/
def fnExactSwapUptoRow : OpenClaim := { program := "ytcamaikogengoaa", sum := "9a4f3aadd8c701158f6ce2a21feaa053c5f0f499db9138aec1f97ed646a09491", func := "loop.example/pub-sortpieces/laws.FnExactSwap", spec := "fnExactSwap", apart := false, narrowed := true }
def FnExactSwapUptoSaid : Prop := fnExactSwapUptoRow.holds Try.pinned (OpenSpec.upto fnExactSwapSpec)

/-- 'laws.FnExactReverse', WHERE WHAT IT READS IS OF BULK AT MOST 1048576: true; the input reads as it did. -/
def fnExactReverseUptoRow : OpenClaim := { program := "ytcamaikogengoaa", sum := "9a4f3aadd8c701158f6ce2a21feaa053c5f0f499db9138aec1f97ed646a09491", func := "loop.example/pub-sortpieces/laws.FnExactReverse", spec := "fnExactReverse", apart := false, narrowed := true }
def FnExactReverseUptoSaid : Prop := fnExactReverseUptoRow.holds Try.pinned (OpenSpec.upto fnExactReverseSpec)

/-- 'laws.FnPower', WHERE WHAT IT READS IS OF BULK AT MOST 1048576: true; the input reads as it did. -/
def fnPowerUptoRow : OpenClaim := { program := "ytcamaikogengoaa", sum := "9a4f3aadd8c701158f6ce2a21feaa053c5f0f499db9138aec1f97ed646a09491", func := "loop.example/pub-sortpieces/laws.FnPower", spec := "fnPower", apart := false, narrowed := true }
def FnPowerUptoSaid : Prop := fnPowerUptoRow.holds Try.pinned (OpenSpec.upto fnPowerSpec)

/-- 'laws.FnPdqItems', WHERE WHAT IT READS IS OF BULK AT MOST 1048576: true; the input reads as it did. -/
def fnPdqItemsUptoRow : OpenClaim := { program := "ytcamaikogengoaa", sum := "9a4f3aadd8c701158f6ce2a21feaa053c5f0f499db9138aec1f97ed646a09491", func := "loop.example/pub-sortpieces/laws.FnPdqItems", spec := "fnPdqItems", unfollowed := true, recurses := true, apart := false, narrowed := true }
def FnPdqItemsUptoSaid : Prop := fnPdqItemsUptoRow.holds Try.pinned (OpenSpec.upto fnPdqItemsSpec)

/-- 'laws.FnExactInsertion', WHERE WHAT IT READS IS OF BULK AT MOST 1048576: true; the input reads as it did. -/
def fnExactInsertionUptoRow : OpenClaim := { program := "ytcamaikogengoaa", sum := "9a4f3aadd8c701158f6ce2a21feaa053c5f0f499db9138aec1f97ed646a09491", func := "loop.example/pub-sortpieces/laws.FnExactInsertion", spec := "fnExactInsertion", apart := false, narrowed := true }
def FnExactInsertionUptoSaid : Prop := fnExactInsertionUptoRow.holds Try.pinned (OpenSpec.upto fnExactInsertionSpec)

/-- 'laws.FnSift', WHERE WHAT IT READS IS OF BULK AT MOST 1048576: true; the input reads as it did. -/
def fnSiftUptoRow : OpenClaim := { program := "ytcamaikogengoaa", sum := "9a4f3aadd8c701158f6ce2a21feaa053c5f0f499db9138aec1f97ed646a09491", func := "loop.example/pub-sortpieces/laws.FnSift", spec := "fnSift", recurses := true, apart := false, narrowed := true }
def FnSiftUptoSaid : Prop := fnSiftUptoRow.holds Try.pinned (OpenSpec.upto fnSiftSpec)

/-- 'laws.FnTwins', WHERE WHAT IT READS IS OF BULK AT MOST 1048576: true; the input reads as it did. -/
def fnTwinsUptoRow : OpenClaim := { program := "ytcamaikogengoaa", sum := "9a4f3aadd8c701158f6ce2a21feaa053c5f0f499db9138aec1f97ed646a09491", func := "loop.example/pub-sortpieces/laws.FnTwins", spec := "fnTwins", unfollowed := true, recurses := true, apart := false, narrowed := true }
def FnTwinsUptoSaid : Prop := fnTwinsUptoRow.holds Try.pinned (OpenSpec.upto fnTwinsSpec)

/-- 'laws.FnSiftAll', WHERE WHAT IT READS IS OF BULK AT MOST 1048576: true; the input reads as it did. -/
def fnSiftAllUptoRow : OpenClaim := { program := "ytcamaikogengoaa", sum := "9a4f3aadd8c701158f6ce2a21feaa053c5f0f499db9138aec1f97ed646a09491", func := "loop.example/pub-sortpieces/laws.FnSiftAll", spec := "fnSiftAll", apart := false, narrowed := true }
def FnSiftAllUptoSaid : Prop := fnSiftAllUptoRow.holds Try.pinned (OpenSpec.upto fnSiftAllSpec)

/-- 'laws.FnTwice', WHERE WHAT IT READS IS OF BULK AT MOST 1048576: true; the input reads as it did. -/
def fnTwiceUptoRow : OpenClaim := { program := "ytcamaikogengoaa", sum := "9a4f3aadd8c701158f6ce2a21feaa053c5f0f499db9138aec1f97ed646a09491", func := "loop.example/pub-sortpieces/laws.FnTwice", spec := "fnTwice", apart := false, narrowed := true }
def FnTwiceUptoSaid : Prop := fnTwiceUptoRow.holds Try.pinned (OpenSpec.upto fnTwiceSpec)

/-- 'laws.FnExactInsertionItems', WHERE WHAT IT READS IS OF BULK AT MOST 1048576: true; the input reads as it did. -/
def fnExactInsertionItemsUptoRow : OpenClaim := { program := "ytcamaikogengoaa", sum := "9a4f3aadd8c701158f6ce2a21feaa053c5f0f499db9138aec1f97ed646a09491", func := "loop.example/pub-sortpieces/laws.FnExactInsertionItems", spec := "fnExactInsertionItems", unfollowed := true, recurses := true, apart := false, narrowed := true }
def FnExactInsertionItemsUptoSaid : Prop := fnExactInsertionItemsUptoRow.holds Try.pinned (OpenSpec.upto fnExactInsertionItemsSpec)

/-- 'laws.FnChoose', WHERE WHAT IT READS IS OF BULK AT MOST 1048576: true; the input reads as it did. -/
def fnChooseUptoRow : OpenClaim := { program := "ytcamaikogengoaa", sum := "9a4f3aadd8c701158f6ce2a21feaa053c5f0f499db9138aec1f97ed646a09491", func := "loop.example/pub-sortpieces/laws.FnChoose", spec := "fnChoose", apart := false, narrowed := true }
def FnChooseUptoSaid : Prop := fnChooseUptoRow.holds Try.pinned (OpenSpec.upto fnChooseSpec)

/-- 'laws.FnPartitionEqual', WHERE WHAT IT READS IS OF BULK AT MOST 1048576: true; the input reads as it did. -/
def fnPartitionEqualUptoRow : OpenClaim := { program := "ytcamaikogengoaa", sum := "9a4f3aadd8c701158f6ce2a21feaa053c5f0f499db9138aec1f97ed646a09491", func := "loop.example/pub-sortpieces/laws.FnPartitionEqual", spec := "fnPartitionEqual", apart := false, narrowed := true }
def FnPartitionEqualUptoSaid : Prop := fnPartitionEqualUptoRow.holds Try.pinned (OpenSpec.upto fnPartitionEqualSpec)

/-- 'laws.FnExactRotate', WHERE WHAT IT READS IS OF BULK AT MOST 1048576: true; the input reads as it did. -/
def fnExactRotateUptoRow : OpenClaim := { program := "ytcamaikogengoaa", sum := "9a4f3aadd8c701158f6ce2a21feaa053c5f0f499db9138aec1f97ed646a09491", func := "loop.example/pub-sortpieces/laws.FnExactRotate", spec := "fnExactRotate", apart := false, narrowed := true }
def FnExactRotateUptoSaid : Prop := fnExactRotateUptoRow.holds Try.pinned (OpenSpec.upto fnExactRotateSpec)

/-- 'laws.FnExactHeapSort', WHERE WHAT IT READS IS OF BULK AT MOST 1048576: true; the input reads as it did. -/
def fnExactHeapSortUptoRow : OpenClaim := { program := "ytcamaikogengoaa", sum := "9a4f3aadd8c701158f6ce2a21feaa053c5f0f499db9138aec1f97ed646a09491", func := "loop.example/pub-sortpieces/laws.FnExactHeapSort", spec := "fnExactHeapSort", apart := false, narrowed := true }
def FnExactHeapSortUptoSaid : Prop := fnExactHeapSortUptoRow.holds Try.pinned (OpenSpec.upto fnExactHeapSortSpec)

/-- 'laws.FnPartition', WHERE WHAT IT READS IS OF BULK AT MOST 1048576: true; the input reads as it did. -/
def fnPartitionUptoRow : OpenClaim := { program := "ytcamaikogengoaa", sum := "9a4f3aadd8c701158f6ce2a21feaa053c5f0f499db9138aec1f97ed646a09491", func := "loop.example/pub-sortpieces/laws.FnPartition", spec := "fnPartition", apart := false, narrowed := true }
def FnPartitionUptoSaid : Prop := fnPartitionUptoRow.holds Try.pinned (OpenSpec.upto fnPartitionSpec)

/-- 'laws.FnAlready', WHERE WHAT IT READS IS OF BULK AT MOST 1048576: true; the input reads as it did. -/
def fnAlreadyUptoRow : OpenClaim := { program := "ytcamaikogengoaa", sum := "9a4f3aadd8c701158f6ce2a21feaa053c5f0f499db9138aec1f97ed646a09491", func := "loop.example/pub-sortpieces/laws.FnAlready", spec := "fnAlready", apart := false, narrowed := true }
def FnAlreadyUptoSaid : Prop := fnAlreadyUptoRow.holds Try.pinned (OpenSpec.upto fnAlreadySpec)

/-- 'laws.FnPartial', WHERE WHAT IT READS IS OF BULK AT MOST 1048576: true; the input reads as it did. -/
def fnPartialUptoRow : OpenClaim := { program := "ytcamaikogengoaa", sum := "9a4f3aadd8c701158f6ce2a21feaa053c5f0f499db9138aec1f97ed646a09491", func := "loop.example/pub-sortpieces/laws.FnPartial", spec := "fnPartial", apart := false, narrowed := true }
def FnPartialUptoSaid : Prop := fnPartialUptoRow.holds Try.pinned (OpenSpec.upto fnPartialSpec)

/-- 'laws.FnBreak', WHERE WHAT IT READS IS OF BULK AT MOST 1048576: true; the input reads as it did. -/
def fnBreakUptoRow : OpenClaim := { program := "ytcamaikogengoaa", sum := "9a4f3aadd8c701158f6ce2a21feaa053c5f0f499db9138aec1f97ed646a09491", func := "loop.example/pub-sortpieces/laws.FnBreak", spec := "fnBreak", apart := false, narrowed := true }
def FnBreakUptoSaid : Prop := fnBreakUptoRow.holds Try.pinned (OpenSpec.upto fnBreakSpec)

/-- 'laws.FnExactRotateItems', WHERE WHAT IT READS IS OF BULK AT MOST 1048576: true; the input reads as it did. -/
def fnExactRotateItemsUptoRow : OpenClaim := { program := "ytcamaikogengoaa", sum := "9a4f3aadd8c701158f6ce2a21feaa053c5f0f499db9138aec1f97ed646a09491", func := "loop.example/pub-sortpieces/laws.FnExactRotateItems", spec := "fnExactRotateItems", apart := false, narrowed := true }
def FnExactRotateItemsUptoSaid : Prop := fnExactRotateItemsUptoRow.holds Try.pinned (OpenSpec.upto fnExactRotateItemsSpec)

/-- 'laws.FnHeapItems', WHERE WHAT IT READS IS OF BULK AT MOST 1048576: true; the input reads as it did. -/
def fnHeapItemsUptoRow : OpenClaim := { program := "ytcamaikogengoaa", sum := "9a4f3aadd8c701158f6ce2a21feaa053c5f0f499db9138aec1f97ed646a09491", func := "loop.example/pub-sortpieces/laws.FnHeapItems", spec := "fnHeapItems", unfollowed := true, recurses := true, apart := false, narrowed := true }
def FnHeapItemsUptoSaid : Prop := fnHeapItemsUptoRow.holds Try.pinned (OpenSpec.upto fnHeapItemsSpec)

/-- 'laws.FnExactMergeItems', WHERE WHAT IT READS IS OF BULK AT MOST 1048576: true; the input reads as it did. -/
def fnExactMergeItemsUptoRow : OpenClaim := { program := "ytcamaikogengoaa", sum := "9a4f3aadd8c701158f6ce2a21feaa053c5f0f499db9138aec1f97ed646a09491", func := "loop.example/pub-sortpieces/laws.FnExactMergeItems", spec := "fnExactMergeItems", unfollowed := true, recurses := true, apart := false, narrowed := true }
def FnExactMergeItemsUptoSaid : Prop := fnExactMergeItemsUptoRow.holds Try.pinned (OpenSpec.upto fnExactMergeItemsSpec)

/-- 'laws.FnExactStableItems', WHERE WHAT IT READS IS OF BULK AT MOST 1048576: true; the input reads as it did. -/
def fnExactStableItemsUptoRow : OpenClaim := { program := "ytcamaikogengoaa", sum := "9a4f3aadd8c701158f6ce2a21feaa053c5f0f499db9138aec1f97ed646a09491", func := "loop.example/pub-sortpieces/laws.FnExactStableItems", spec := "fnExactStableItems", unfollowed := true, recurses := true, apart := false, narrowed := true }
def FnExactStableItemsUptoSaid : Prop := fnExactStableItemsUptoRow.holds Try.pinned (OpenSpec.upto fnExactStableItemsSpec)

/-- 'laws.FnExactPdq', WHERE WHAT IT READS IS OF BULK AT MOST 1048576: true; the input reads as it did. -/
def fnExactPdqUptoRow : OpenClaim := { program := "ytcamaikogengoaa", sum := "9a4f3aadd8c701158f6ce2a21feaa053c5f0f499db9138aec1f97ed646a09491", func := "loop.example/pub-sortpieces/laws.FnExactPdq", spec := "fnExactPdq", recurses := true, apart := false, narrowed := true }
def FnExactPdqUptoSaid : Prop := fnExactPdqUptoRow.holds Try.pinned (OpenSpec.upto fnExactPdqSpec)

end Rows
end Go.Proofs.Ytcamaikogengoaa

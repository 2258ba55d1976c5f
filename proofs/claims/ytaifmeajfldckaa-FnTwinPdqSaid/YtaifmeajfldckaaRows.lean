/-
  No cell of these rows narrows 'for every input' (looked for: loops, veiled, ifaces, maps, wideKeys, modest, calm, conditions, laid).
  DERIVED. THE GIVEN ROWS OF THIS SEAT. 16 by the template 'for every input the law returns true; each argument reads behind the call as it read before'; 0 by the template 'total and deterministic' (their statements: YtaifmeajfldckaaTotals.lean).
  GIVEN WITH THE SEED: the statements are not yours to turn. If you find one false, say at which input.
  Laid BY PROGRAM, IN A SANDBOX (cutbox-rows.mjs): the forced cells as the released guide's own fill.sh prints them over the translation ac773c9112ab3604… (all of the seat's roots in one cut). By AI agents, Wed Nov 11 2026. No macro, syntax, notation, axiom, sorry.
-/
import Derived.Test.YtaifmeajfldckaaChecked
import GoSem.Claim
import GoSem.ClaimJoined
import GoSem.ClaimMapViews
import Derived.JoinedTies
import Derived.KernelRfl
namespace Go.Proofs.Ytaifmeajfldckaa
/- THE CELL 'sum', in the pinned program and in every row, IS THE sha256 OF THE DUMP (.gsa) THAT YtaifmeajfldckaaProg.lean LOADS. Nothing in Lean hashes anything: it is a label: what it is worth is what the hold of that sum in a sandbox is worth. -/
noncomputable def Try.pinned : Pinned := { name := "ytaifmeajfldckaa", sum := "ac773c9112ab3604b9d8942759a71d9bf3a7b942e62b2a33be9a4e13a973ad65", checked := Try.checked }
namespace Rows
def none {H : Type} : Left H := { results := [], args := [] }

/-- 'laws.FnExactInOrder': WHATEVER THE INPUT: true; the input reads as it did. -/
def fnExactInOrderSpec : ChangeSpec := { name := "fnExactInOrder", fn := fun _ => fun
  | [d] => { results := [.lit (.bool true)], args := [d] }
  | _ => none }
def fnExactInOrderRow : OpenClaim := { program := "ytaifmeajfldckaa", sum := "ac773c9112ab3604b9d8942759a71d9bf3a7b942e62b2a33be9a4e13a973ad65", func := "loop.example/pub-sorttwins/laws.FnExactInOrder", spec := "fnExactInOrder", unfollowed := true, recurses := true, apart := false }
def FnExactInOrderSaid : Prop := fnExactInOrderRow.holds Try.pinned (OpenSpec.ofChange fnExactInOrderSpec)

/-- ITS FALSE NEIGHBOUR: 'it returns false'. Refute it at one input. -/
def fnExactInOrderWrong : ChangeSpec := { name := "fnExactInOrder", fn := fun _ => fun
  | [d] => { results := [.lit (.bool false)], args := [d] }
  | _ => none }
def FnExactInOrderWrongFalsely : Prop := fnExactInOrderRow.holds Try.pinned (OpenSpec.ofChange fnExactInOrderWrong)

/-- 'laws.FnExactInsertion': WHATEVER THE INPUT: true; the input reads as it did. -/
def fnExactInsertionSpec : ChangeSpec := { name := "fnExactInsertion", fn := fun _ => fun
  | [d1, d2, d3] => { results := [.lit (.bool true)], args := [d1, d2, d3] }
  | _ => none }
def fnExactInsertionRow : OpenClaim := { program := "ytaifmeajfldckaa", sum := "ac773c9112ab3604b9d8942759a71d9bf3a7b942e62b2a33be9a4e13a973ad65", func := "loop.example/pub-sorttwins/laws.FnExactInsertion", spec := "fnExactInsertion", unfollowed := true, recurses := true, apart := false }
def FnExactInsertionSaid : Prop := fnExactInsertionRow.holds Try.pinned (OpenSpec.ofChange fnExactInsertionSpec)

/-- ITS FALSE NEIGHBOUR: 'it returns false'. Refute it at one input. -/
def fnExactInsertionWrong : ChangeSpec := { name := "fnExactInsertion", fn := fun _ => fun
  | [d1, d2, d3] => { results := [.lit (.bool false)], args := [d1, d2, d3] }
  | _ => none }
def FnExactInsertionWrongFalsely : Prop := fnExactInsertionRow.holds Try.pinned (OpenSpec.ofChange fnExactInsertionWrong)

/-- 'laws.FnExactRotate': WHATEVER THE INPUT: true; the input reads as it did. -/
def fnExactRotateSpec : ChangeSpec := { name := "fnExactRotate", fn := fun _ => fun
  | [d1, d2, d3, d4] => { results := [.lit (.bool true)], args := [d1, d2, d3, d4] }
  | _ => none }
def fnExactRotateRow : OpenClaim := { program := "ytaifmeajfldckaa", sum := "ac773c9112ab3604b9d8942759a71d9bf3a7b942e62b2a33be9a4e13a973ad65", func := "loop.example/pub-sorttwins/laws.FnExactRotate", spec := "fnExactRotate", unfollowed := true, recurses := true, apart := false }
def FnExactRotateSaid : Prop := fnExactRotateRow.holds Try.pinned (OpenSpec.ofChange fnExactRotateSpec)

/-- ITS FALSE NEIGHBOUR: 'it returns false'. Refute it at one input. -/
def fnExactRotateWrong : ChangeSpec := { name := "fnExactRotate", fn := fun _ => fun
  | [d1, d2, d3, d4] => { results := [.lit (.bool false)], args := [d1, d2, d3, d4] }
  | _ => none }
def FnExactRotateWrongFalsely : Prop := fnExactRotateRow.holds Try.pinned (OpenSpec.ofChange fnExactRotateWrong)

/-- 'laws.FnPartition': WHATEVER THE INPUT: true; the input reads as it did. -/
def fnPartitionSpec : ChangeSpec := { name := "fnPartition", fn := fun _ => fun
  | [d1, d2, d3, d4] => { results := [.lit (.bool true)], args := [d1, d2, d3, d4] }
  | _ => none }
def fnPartitionRow : OpenClaim := { program := "ytaifmeajfldckaa", sum := "ac773c9112ab3604b9d8942759a71d9bf3a7b942e62b2a33be9a4e13a973ad65", func := "loop.example/pub-sorttwins/laws.FnPartition", spec := "fnPartition", unfollowed := true, recurses := true, apart := false }
def FnPartitionSaid : Prop := fnPartitionRow.holds Try.pinned (OpenSpec.ofChange fnPartitionSpec)

/-- ITS FALSE NEIGHBOUR: 'it returns false'. Refute it at one input. -/
def fnPartitionWrong : ChangeSpec := { name := "fnPartition", fn := fun _ => fun
  | [d1, d2, d3, d4] => { results := [.lit (.bool false)], args := [d1, d2, d3, d4] }
  | _ => none }
def FnPartitionWrongFalsely : Prop := fnPartitionRow.holds Try.pinned (OpenSpec.ofChange fnPartitionWrong)

/-- 'laws.FnTwinInsertion': WHATEVER THE INPUT: true; the input reads as it did. -/
def fnTwinInsertionSpec : ChangeSpec := { name := "fnTwinInsertion", fn := fun _ => fun
  | [d1, d2, d3] => { results := [.lit (.bool true)], args := [d1, d2, d3] }
  | _ => none }
def fnTwinInsertionRow : OpenClaim := { program := "ytaifmeajfldckaa", sum := "ac773c9112ab3604b9d8942759a71d9bf3a7b942e62b2a33be9a4e13a973ad65", func := "loop.example/pub-sorttwins/laws.FnTwinInsertion", spec := "fnTwinInsertion", unfollowed := true, recurses := true, apart := false }
def FnTwinInsertionSaid : Prop := fnTwinInsertionRow.holds Try.pinned (OpenSpec.ofChange fnTwinInsertionSpec)

/-- ITS FALSE NEIGHBOUR: 'it returns false'. Refute it at one input. -/
def fnTwinInsertionWrong : ChangeSpec := { name := "fnTwinInsertion", fn := fun _ => fun
  | [d1, d2, d3] => { results := [.lit (.bool false)], args := [d1, d2, d3] }
  | _ => none }
def FnTwinInsertionWrongFalsely : Prop := fnTwinInsertionRow.holds Try.pinned (OpenSpec.ofChange fnTwinInsertionWrong)

/-- 'laws.FnHeap': WHATEVER THE INPUT: true; the input reads as it did. -/
def fnHeapSpec : ChangeSpec := { name := "fnHeap", fn := fun _ => fun
  | [d1, d2, d3] => { results := [.lit (.bool true)], args := [d1, d2, d3] }
  | _ => none }
def fnHeapRow : OpenClaim := { program := "ytaifmeajfldckaa", sum := "ac773c9112ab3604b9d8942759a71d9bf3a7b942e62b2a33be9a4e13a973ad65", func := "loop.example/pub-sorttwins/laws.FnHeap", spec := "fnHeap", unfollowed := true, recurses := true, apart := false }
def FnHeapSaid : Prop := fnHeapRow.holds Try.pinned (OpenSpec.ofChange fnHeapSpec)

/-- ITS FALSE NEIGHBOUR: 'it returns false'. Refute it at one input. -/
def fnHeapWrong : ChangeSpec := { name := "fnHeap", fn := fun _ => fun
  | [d1, d2, d3] => { results := [.lit (.bool false)], args := [d1, d2, d3] }
  | _ => none }
def FnHeapWrongFalsely : Prop := fnHeapRow.holds Try.pinned (OpenSpec.ofChange fnHeapWrong)

/-- 'laws.FnTwinPartition': WHATEVER THE INPUT: true; the input reads as it did. -/
def fnTwinPartitionSpec : ChangeSpec := { name := "fnTwinPartition", fn := fun _ => fun
  | [d1, d2, d3, d4] => { results := [.lit (.bool true)], args := [d1, d2, d3, d4] }
  | _ => none }
def fnTwinPartitionRow : OpenClaim := { program := "ytaifmeajfldckaa", sum := "ac773c9112ab3604b9d8942759a71d9bf3a7b942e62b2a33be9a4e13a973ad65", func := "loop.example/pub-sorttwins/laws.FnTwinPartition", spec := "fnTwinPartition", unfollowed := true, recurses := true, apart := false }
def FnTwinPartitionSaid : Prop := fnTwinPartitionRow.holds Try.pinned (OpenSpec.ofChange fnTwinPartitionSpec)

/-- ITS FALSE NEIGHBOUR: 'it returns false'. Refute it at one input. -/
def fnTwinPartitionWrong : ChangeSpec := { name := "fnTwinPartition", fn := fun _ => fun
  | [d1, d2, d3, d4] => { results := [.lit (.bool false)], args := [d1, d2, d3, d4] }
  | _ => none }
def FnTwinPartitionWrongFalsely : Prop := fnTwinPartitionRow.holds Try.pinned (OpenSpec.ofChange fnTwinPartitionWrong)

/-- 'laws.FnTwinHeap': WHATEVER THE INPUT: true; the input reads as it did. -/
def fnTwinHeapSpec : ChangeSpec := { name := "fnTwinHeap", fn := fun _ => fun
  | [d1, d2, d3] => { results := [.lit (.bool true)], args := [d1, d2, d3] }
  | _ => none }
def fnTwinHeapRow : OpenClaim := { program := "ytaifmeajfldckaa", sum := "ac773c9112ab3604b9d8942759a71d9bf3a7b942e62b2a33be9a4e13a973ad65", func := "loop.example/pub-sorttwins/laws.FnTwinHeap", spec := "fnTwinHeap", unfollowed := true, recurses := true, apart := false }
def FnTwinHeapSaid : Prop := fnTwinHeapRow.holds Try.pinned (OpenSpec.ofChange fnTwinHeapSpec)

/-- ITS FALSE NEIGHBOUR: 'it returns false'. Refute it at one input. -/
def fnTwinHeapWrong : ChangeSpec := { name := "fnTwinHeap", fn := fun _ => fun
  | [d1, d2, d3] => { results := [.lit (.bool false)], args := [d1, d2, d3] }
  | _ => none }
def FnTwinHeapWrongFalsely : Prop := fnTwinHeapRow.holds Try.pinned (OpenSpec.ofChange fnTwinHeapWrong)

/-- 'laws.FnExactMerge': WHATEVER THE INPUT: true; the input reads as it did. -/
def fnExactMergeSpec : ChangeSpec := { name := "fnExactMerge", fn := fun _ => fun
  | [d1, d2, d3, d4] => { results := [.lit (.bool true)], args := [d1, d2, d3, d4] }
  | _ => none }
def fnExactMergeRow : OpenClaim := { program := "ytaifmeajfldckaa", sum := "ac773c9112ab3604b9d8942759a71d9bf3a7b942e62b2a33be9a4e13a973ad65", func := "loop.example/pub-sorttwins/laws.FnExactMerge", spec := "fnExactMerge", unfollowed := true, recurses := true, apart := false }
def FnExactMergeSaid : Prop := fnExactMergeRow.holds Try.pinned (OpenSpec.ofChange fnExactMergeSpec)

/-- ITS FALSE NEIGHBOUR: 'it returns false'. Refute it at one input. -/
def fnExactMergeWrong : ChangeSpec := { name := "fnExactMerge", fn := fun _ => fun
  | [d1, d2, d3, d4] => { results := [.lit (.bool false)], args := [d1, d2, d3, d4] }
  | _ => none }
def FnExactMergeWrongFalsely : Prop := fnExactMergeRow.holds Try.pinned (OpenSpec.ofChange fnExactMergeWrong)

/-- 'laws.FnExactBackwards': WHATEVER THE INPUT: true; the input reads as it did. -/
def fnExactBackwardsSpec : ChangeSpec := { name := "fnExactBackwards", fn := fun _ => fun
  | [d] => { results := [.lit (.bool true)], args := [d] }
  | _ => none }
def fnExactBackwardsRow : OpenClaim := { program := "ytaifmeajfldckaa", sum := "ac773c9112ab3604b9d8942759a71d9bf3a7b942e62b2a33be9a4e13a973ad65", func := "loop.example/pub-sorttwins/laws.FnExactBackwards", spec := "fnExactBackwards", unfollowed := true, recurses := true, apart := false }
def FnExactBackwardsSaid : Prop := fnExactBackwardsRow.holds Try.pinned (OpenSpec.ofChange fnExactBackwardsSpec)

/-- ITS FALSE NEIGHBOUR: 'it returns false'. Refute it at one input. -/
def fnExactBackwardsWrong : ChangeSpec := { name := "fnExactBackwards", fn := fun _ => fun
  | [d] => { results := [.lit (.bool false)], args := [d] }
  | _ => none }
def FnExactBackwardsWrongFalsely : Prop := fnExactBackwardsRow.holds Try.pinned (OpenSpec.ofChange fnExactBackwardsWrong)

/-- 'laws.FnExactStable': WHATEVER THE INPUT: true; the input reads as it did. -/
def fnExactStableSpec : ChangeSpec := { name := "fnExactStable", fn := fun _ => fun
  | [d] => { results := [.lit (.bool true)], args := [d] }
  | _ => none }
def fnExactStableRow : OpenClaim := { program := "ytaifmeajfldckaa", sum := "ac773c9112ab3604b9d8942759a71d9bf3a7b942e62b2a33be9a4e13a973ad65", func := "loop.example/pub-sorttwins/laws.FnExactStable", spec := "fnExactStable", unfollowed := true, recurses := true, apart := false }
def FnExactStableSaid : Prop := fnExactStableRow.holds Try.pinned (OpenSpec.ofChange fnExactStableSpec)

/-- ITS FALSE NEIGHBOUR: 'it returns false'. Refute it at one input. -/
def fnExactStableWrong : ChangeSpec := { name := "fnExactStable", fn := fun _ => fun
  | [d] => { results := [.lit (.bool false)], args := [d] }
  | _ => none }
def FnExactStableWrongFalsely : Prop := fnExactStableRow.holds Try.pinned (OpenSpec.ofChange fnExactStableWrong)

/-- 'laws.FnTwinMerge': WHATEVER THE INPUT: true; the input reads as it did. -/
def fnTwinMergeSpec : ChangeSpec := { name := "fnTwinMerge", fn := fun _ => fun
  | [d1, d2, d3, d4] => { results := [.lit (.bool true)], args := [d1, d2, d3, d4] }
  | _ => none }
def fnTwinMergeRow : OpenClaim := { program := "ytaifmeajfldckaa", sum := "ac773c9112ab3604b9d8942759a71d9bf3a7b942e62b2a33be9a4e13a973ad65", func := "loop.example/pub-sorttwins/laws.FnTwinMerge", spec := "fnTwinMerge", unfollowed := true, recurses := true, apart := false }
def FnTwinMergeSaid : Prop := fnTwinMergeRow.holds Try.pinned (OpenSpec.ofChange fnTwinMergeSpec)

/-- ITS FALSE NEIGHBOUR: 'it returns false'. Refute it at one input. -/
def fnTwinMergeWrong : ChangeSpec := { name := "fnTwinMerge", fn := fun _ => fun
  | [d1, d2, d3, d4] => { results := [.lit (.bool false)], args := [d1, d2, d3, d4] }
  | _ => none }
def FnTwinMergeWrongFalsely : Prop := fnTwinMergeRow.holds Try.pinned (OpenSpec.ofChange fnTwinMergeWrong)

/-- 'laws.FnTwinStable': WHATEVER THE INPUT: true; the input reads as it did. -/
def fnTwinStableSpec : ChangeSpec := { name := "fnTwinStable", fn := fun _ => fun
  | [d] => { results := [.lit (.bool true)], args := [d] }
  | _ => none }
def fnTwinStableRow : OpenClaim := { program := "ytaifmeajfldckaa", sum := "ac773c9112ab3604b9d8942759a71d9bf3a7b942e62b2a33be9a4e13a973ad65", func := "loop.example/pub-sorttwins/laws.FnTwinStable", spec := "fnTwinStable", unfollowed := true, recurses := true, apart := false }
def FnTwinStableSaid : Prop := fnTwinStableRow.holds Try.pinned (OpenSpec.ofChange fnTwinStableSpec)

/-- ITS FALSE NEIGHBOUR: 'it returns false'. Refute it at one input. -/
def fnTwinStableWrong : ChangeSpec := { name := "fnTwinStable", fn := fun _ => fun
  | [d] => { results := [.lit (.bool false)], args := [d] }
  | _ => none }
def FnTwinStableWrongFalsely : Prop := fnTwinStableRow.holds Try.pinned (OpenSpec.ofChange fnTwinStableWrong)

/-- 'laws.FnPdq': WHATEVER THE INPUT: true; the input reads as it did. -/
def fnPdqSpec : ChangeSpec := { name := "fnPdq", fn := fun _ => fun
  | [d1, d2, d3, d4] => { results := [.lit (.bool true)], args := [d1, d2, d3, d4] }
  | _ => none }
def fnPdqRow : OpenClaim := { program := "ytaifmeajfldckaa", sum := "ac773c9112ab3604b9d8942759a71d9bf3a7b942e62b2a33be9a4e13a973ad65", func := "loop.example/pub-sorttwins/laws.FnPdq", spec := "fnPdq", unfollowed := true, recurses := true, apart := false }
def FnPdqSaid : Prop := fnPdqRow.holds Try.pinned (OpenSpec.ofChange fnPdqSpec)

/-- ITS FALSE NEIGHBOUR: 'it returns false'. Refute it at one input. -/
def fnPdqWrong : ChangeSpec := { name := "fnPdq", fn := fun _ => fun
  | [d1, d2, d3, d4] => { results := [.lit (.bool false)], args := [d1, d2, d3, d4] }
  | _ => none }
def FnPdqWrongFalsely : Prop := fnPdqRow.holds Try.pinned (OpenSpec.ofChange fnPdqWrong)

/-- 'laws.FnSort': WHATEVER THE INPUT: true; the input reads as it did. -/
def fnSortSpec : ChangeSpec := { name := "fnSort", fn := fun _ => fun
  | [d] => { results := [.lit (.bool true)], args := [d] }
  | _ => none }
def fnSortRow : OpenClaim := { program := "ytaifmeajfldckaa", sum := "ac773c9112ab3604b9d8942759a71d9bf3a7b942e62b2a33be9a4e13a973ad65", func := "loop.example/pub-sorttwins/laws.FnSort", spec := "fnSort", unfollowed := true, recurses := true, apart := false }
def FnSortSaid : Prop := fnSortRow.holds Try.pinned (OpenSpec.ofChange fnSortSpec)

/-- ITS FALSE NEIGHBOUR: 'it returns false'. Refute it at one input. -/
def fnSortWrong : ChangeSpec := { name := "fnSort", fn := fun _ => fun
  | [d] => { results := [.lit (.bool false)], args := [d] }
  | _ => none }
def FnSortWrongFalsely : Prop := fnSortRow.holds Try.pinned (OpenSpec.ofChange fnSortWrong)

/-- 'laws.FnTwinPdq': WHATEVER THE INPUT: true; the input reads as it did. -/
def fnTwinPdqSpec : ChangeSpec := { name := "fnTwinPdq", fn := fun _ => fun
  | [d1, d2, d3, d4] => { results := [.lit (.bool true)], args := [d1, d2, d3, d4] }
  | _ => none }
def fnTwinPdqRow : OpenClaim := { program := "ytaifmeajfldckaa", sum := "ac773c9112ab3604b9d8942759a71d9bf3a7b942e62b2a33be9a4e13a973ad65", func := "loop.example/pub-sorttwins/laws.FnTwinPdq", spec := "fnTwinPdq", unfollowed := true, recurses := true, apart := false }
def FnTwinPdqSaid : Prop := fnTwinPdqRow.holds Try.pinned (OpenSpec.ofChange fnTwinPdqSpec)

/-- ITS FALSE NEIGHBOUR: 'it returns false'. Refute it at one input. -/
def fnTwinPdqWrong : ChangeSpec := { name := "fnTwinPdq", fn := fun _ => fun
  | [d1, d2, d3, d4] => { results := [.lit (.bool false)], args := [d1, d2, d3, d4] }
  | _ => none }
def FnTwinPdqWrongFalsely : Prop := fnTwinPdqRow.holds Try.pinned (OpenSpec.ofChange fnTwinPdqWrong)

/- THE SECOND FORM. 'bulk': how many values and letters a reading holds, each counted each time it is reached (what is shared counts as often as it is met; a slice's spare places count too). A statement '..UptoSaid' is the law's where the arguments, and the package variables that the reading takes, are together of bulk at most 1048576: NARROWER than '..Said'. Prove '..Said' where nothing that the law and all that it calls make is longer than what came in: it says more and counts as full. Else prove '..UptoSaid'. A law counts once. -/
mutual
def uptoBulk {H : Type} : DataW H → Nat
  | .lit (.string bytes) => bytes.length + 1
  | .lit _ => 1
  | .nil => 1
  | .ptr d => uptoBulk d + 1
  | .slice elems spare => uptoBulkAll elems + uptoBulkAll spare + 1
  | .agg parts => uptoBulkAll parts + 1
  | .iface _ d => uptoBulk d + 1
  | .map entries => uptoBulkEntries entries + 1
  | .held _ => 1
def uptoBulkAll {H : Type} : List (DataW H) → Nat
  | [] => 0
  | d :: r => uptoBulk d + uptoBulkAll r
def uptoBulkEntries {H : Type} : List (Lit × DataW H) → Nat
  | [] => 0
  | x :: r => uptoBulkEntry x + uptoBulkEntries r
def uptoBulkEntry {H : Type} : Lit × DataW H → Nat
  | (.string bytes, d) => bytes.length + uptoBulk d + 1
  | (_, d) => uptoBulk d + 1
 end
def uptoSmall : (H : Type) → List (DataW H) → Bool := fun _ ds => decide (uptoBulkAll ds ≤ 1048576)
def OpenSpec.upto (s : _root_.Go.ChangeSpec) : _root_.Go.OpenSpec := { _root_.Go.OpenSpec.ofChange s with cond := some uptoSmall }

/-- 'laws.FnExactInOrder', WHERE WHAT IT READS IS OF BULK AT MOST 1048576: true; the input reads as it did. -/
def fnExactInOrderUptoRow : OpenClaim := { program := "ytaifmeajfldckaa", sum := "ac773c9112ab3604b9d8942759a71d9bf3a7b942e62b2a33be9a4e13a973ad65", func := "loop.example/pub-sorttwins/laws.FnExactInOrder", spec := "fnExactInOrder", unfollowed := true, recurses := true, apart := false, narrowed := true }
def FnExactInOrderUptoSaid : Prop := fnExactInOrderUptoRow.holds Try.pinned (OpenSpec.upto fnExactInOrderSpec)

/-- 'laws.FnExactInsertion', WHERE WHAT IT READS IS OF BULK AT MOST 1048576: true; the input reads as it did. -/
def fnExactInsertionUptoRow : OpenClaim := { program := "ytaifmeajfldckaa", sum := "ac773c9112ab3604b9d8942759a71d9bf3a7b942e62b2a33be9a4e13a973ad65", func := "loop.example/pub-sorttwins/laws.FnExactInsertion", spec := "fnExactInsertion", unfollowed := true, recurses := true, apart := false, narrowed := true }
def FnExactInsertionUptoSaid : Prop := fnExactInsertionUptoRow.holds Try.pinned (OpenSpec.upto fnExactInsertionSpec)

/-- 'laws.FnExactRotate', WHERE WHAT IT READS IS OF BULK AT MOST 1048576: true; the input reads as it did. -/
def fnExactRotateUptoRow : OpenClaim := { program := "ytaifmeajfldckaa", sum := "ac773c9112ab3604b9d8942759a71d9bf3a7b942e62b2a33be9a4e13a973ad65", func := "loop.example/pub-sorttwins/laws.FnExactRotate", spec := "fnExactRotate", unfollowed := true, recurses := true, apart := false, narrowed := true }
def FnExactRotateUptoSaid : Prop := fnExactRotateUptoRow.holds Try.pinned (OpenSpec.upto fnExactRotateSpec)

/-- 'laws.FnPartition', WHERE WHAT IT READS IS OF BULK AT MOST 1048576: true; the input reads as it did. -/
def fnPartitionUptoRow : OpenClaim := { program := "ytaifmeajfldckaa", sum := "ac773c9112ab3604b9d8942759a71d9bf3a7b942e62b2a33be9a4e13a973ad65", func := "loop.example/pub-sorttwins/laws.FnPartition", spec := "fnPartition", unfollowed := true, recurses := true, apart := false, narrowed := true }
def FnPartitionUptoSaid : Prop := fnPartitionUptoRow.holds Try.pinned (OpenSpec.upto fnPartitionSpec)

/-- 'laws.FnTwinInsertion', WHERE WHAT IT READS IS OF BULK AT MOST 1048576: true; the input reads as it did. -/
def fnTwinInsertionUptoRow : OpenClaim := { program := "ytaifmeajfldckaa", sum := "ac773c9112ab3604b9d8942759a71d9bf3a7b942e62b2a33be9a4e13a973ad65", func := "loop.example/pub-sorttwins/laws.FnTwinInsertion", spec := "fnTwinInsertion", unfollowed := true, recurses := true, apart := false, narrowed := true }
def FnTwinInsertionUptoSaid : Prop := fnTwinInsertionUptoRow.holds Try.pinned (OpenSpec.upto fnTwinInsertionSpec)

/-- 'laws.FnHeap', WHERE WHAT IT READS IS OF BULK AT MOST 1048576: true; the input reads as it did. -/
def fnHeapUptoRow : OpenClaim := { program := "ytaifmeajfldckaa", sum := "ac773c9112ab3604b9d8942759a71d9bf3a7b942e62b2a33be9a4e13a973ad65", func := "loop.example/pub-sorttwins/laws.FnHeap", spec := "fnHeap", unfollowed := true, recurses := true, apart := false, narrowed := true }
def FnHeapUptoSaid : Prop := fnHeapUptoRow.holds Try.pinned (OpenSpec.upto fnHeapSpec)

/-- 'laws.FnTwinPartition', WHERE WHAT IT READS IS OF BULK AT MOST 1048576: true; the input reads as it did. -/
def fnTwinPartitionUptoRow : OpenClaim := { program := "ytaifmeajfldckaa", sum := "ac773c9112ab3604b9d8942759a71d9bf3a7b942e62b2a33be9a4e13a973ad65", func := "loop.example/pub-sorttwins/laws.FnTwinPartition", spec := "fnTwinPartition", unfollowed := true, recurses := true, apart := false, narrowed := true }
def FnTwinPartitionUptoSaid : Prop := fnTwinPartitionUptoRow.holds Try.pinned (OpenSpec.upto fnTwinPartitionSpec)

/-- 'laws.FnTwinHeap', WHERE WHAT IT READS IS OF BULK AT MOST 1048576: true; the input reads as it did. -/
def fnTwinHeapUptoRow : OpenClaim := { program := "ytaifmeajfldckaa", sum := "ac773c9112ab3604b9d8942759a71d9bf3a7b942e62b2a33be9a4e13a973ad65", func := "loop.example/pub-sorttwins/laws.FnTwinHeap", spec := "fnTwinHeap", unfollowed := true, recurses := true, apart := false, narrowed := true }
def FnTwinHeapUptoSaid : Prop := fnTwinHeapUptoRow.holds Try.pinned (OpenSpec.upto fnTwinHeapSpec)

/-- 'laws.FnExactMerge', WHERE WHAT IT READS IS OF BULK AT MOST 1048576: true; the input reads as it did. -/
def fnExactMergeUptoRow : OpenClaim := { program := "ytaifmeajfldckaa", sum := "ac773c9112ab3604b9d8942759a71d9bf3a7b942e62b2a33be9a4e13a973ad65", func := "loop.example/pub-sorttwins/laws.FnExactMerge", spec := "fnExactMerge", unfollowed := true, recurses := true, apart := false, narrowed := true }
def FnExactMergeUptoSaid : Prop := fnExactMergeUptoRow.holds Try.pinned (OpenSpec.upto fnExactMergeSpec)

/-- 'laws.FnExactBackwards', WHERE WHAT IT READS IS OF BULK AT MOST 1048576: true; the input reads as it did. -/
def fnExactBackwardsUptoRow : OpenClaim := { program := "ytaifmeajfldckaa", sum := "ac773c9112ab3604b9d8942759a71d9bf3a7b942e62b2a33be9a4e13a973ad65", func := "loop.example/pub-sorttwins/laws.FnExactBackwards", spec := "fnExactBackwards", unfollowed := true, recurses := true, apart := false, narrowed := true }
def FnExactBackwardsUptoSaid : Prop := fnExactBackwardsUptoRow.holds Try.pinned (OpenSpec.upto fnExactBackwardsSpec)

/-- 'laws.FnExactStable', WHERE WHAT IT READS IS OF BULK AT MOST 1048576: true; the input reads as it did. -/
def fnExactStableUptoRow : OpenClaim := { program := "ytaifmeajfldckaa", sum := "ac773c9112ab3604b9d8942759a71d9bf3a7b942e62b2a33be9a4e13a973ad65", func := "loop.example/pub-sorttwins/laws.FnExactStable", spec := "fnExactStable", unfollowed := true, recurses := true, apart := false, narrowed := true }
def FnExactStableUptoSaid : Prop := fnExactStableUptoRow.holds Try.pinned (OpenSpec.upto fnExactStableSpec)

/-- 'laws.FnTwinMerge', WHERE WHAT IT READS IS OF BULK AT MOST 1048576: true; the input reads as it did. -/
def fnTwinMergeUptoRow : OpenClaim := { program := "ytaifmeajfldckaa", sum := "ac773c9112ab3604b9d8942759a71d9bf3a7b942e62b2a33be9a4e13a973ad65", func := "loop.example/pub-sorttwins/laws.FnTwinMerge", spec := "fnTwinMerge", unfollowed := true, recurses := true, apart := false, narrowed := true }
def FnTwinMergeUptoSaid : Prop := fnTwinMergeUptoRow.holds Try.pinned (OpenSpec.upto fnTwinMergeSpec)

/-- 'laws.FnTwinStable', WHERE WHAT IT READS IS OF BULK AT MOST 1048576: true; the input reads as it did. -/
def fnTwinStableUptoRow : OpenClaim := { program := "ytaifmeajfldckaa", sum := "ac773c9112ab3604b9d8942759a71d9bf3a7b942e62b2a33be9a4e13a973ad65", func := "loop.example/pub-sorttwins/laws.FnTwinStable", spec := "fnTwinStable", unfollowed := true, recurses := true, apart := false, narrowed := true }
def FnTwinStableUptoSaid : Prop := fnTwinStableUptoRow.holds Try.pinned (OpenSpec.upto fnTwinStableSpec)

/-- 'laws.FnPdq', WHERE WHAT IT READS IS OF BULK AT MOST 1048576: true; the input reads as it did. -/
def fnPdqUptoRow : OpenClaim := { program := "ytaifmeajfldckaa", sum := "ac773c9112ab3604b9d8942759a71d9bf3a7b942e62b2a33be9a4e13a973ad65", func := "loop.example/pub-sorttwins/laws.FnPdq", spec := "fnPdq", unfollowed := true, recurses := true, apart := false, narrowed := true }
def FnPdqUptoSaid : Prop := fnPdqUptoRow.holds Try.pinned (OpenSpec.upto fnPdqSpec)

/-- 'laws.FnSort', WHERE WHAT IT READS IS OF BULK AT MOST 1048576: true; the input reads as it did. -/
def fnSortUptoRow : OpenClaim := { program := "ytaifmeajfldckaa", sum := "ac773c9112ab3604b9d8942759a71d9bf3a7b942e62b2a33be9a4e13a973ad65", func := "loop.example/pub-sorttwins/laws.FnSort", spec := "fnSort", unfollowed := true, recurses := true, apart := false, narrowed := true }
def FnSortUptoSaid : Prop := fnSortUptoRow.holds Try.pinned (OpenSpec.upto fnSortSpec)

/-- 'laws.FnTwinPdq', WHERE WHAT IT READS IS OF BULK AT MOST 1048576: true; the input reads as it did. -/
def fnTwinPdqUptoRow : OpenClaim := { program := "ytaifmeajfldckaa", sum := "ac773c9112ab3604b9d8942759a71d9bf3a7b942e62b2a33be9a4e13a973ad65", func := "loop.example/pub-sorttwins/laws.FnTwinPdq", spec := "fnTwinPdq", unfollowed := true, recurses := true, apart := false, narrowed := true }
def FnTwinPdqUptoSaid : Prop := fnTwinPdqUptoRow.holds Try.pinned (OpenSpec.upto fnTwinPdqSpec)

end Rows
end Go.Proofs.Ytaifmeajfldckaa

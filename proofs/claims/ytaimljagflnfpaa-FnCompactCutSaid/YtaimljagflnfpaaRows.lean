/-
  No cell of these rows narrows 'for every input' (looked for: loops, veiled, ifaces, maps, wideKeys, modest, calm, conditions, laid).
  DERIVED. THE GIVEN ROWS OF THIS SEAT. 12 by the template 'for every input the law returns true; each argument reads behind the call as it read before'; 0 by the template 'total and deterministic' (their statements: YtaimljagflnfpaaTotals.lean).
  GIVEN WITH THE SEED: the statements are not yours to turn. If you find one false, say at which input.
  Laid BY PROGRAM, IN A SANDBOX (cutbox-rows.mjs): the forced cells as the released guide's own fill.sh prints them over the translation c922f513720769f4… (all of the seat's roots in one cut). By AI agents, Wed Nov 11 2026. No macro, syntax, notation, axiom, sorry.
-/
import Derived.Test.YtaimljagflnfpaaChecked
import GoSem.Claim
import GoSem.ClaimJoined
import GoSem.ClaimMapViews
import Derived.JoinedTies
import Derived.KernelRfl
namespace Go.Proofs.Ytaimljagflnfpaa
/- THE CELL 'sum', in the pinned program and in every row, IS THE sha256 OF THE DUMP (.gsa) THAT YtaimljagflnfpaaProg.lean LOADS. Nothing in Lean hashes anything: it is a label: what it is worth is what the hold of that sum in a sandbox is worth. -/
noncomputable def Try.pinned : Pinned := { name := "ytaimljagflnfpaa", sum := "c922f513720769f4e00024a2df8c2fac8bfdd18ed476ae002d93ad5a44d55b27", checked := Try.checked }
namespace Rows
def none {H : Type} : Left H := { results := [], args := [] }

/-- 'laws.FnCompactCut': WHATEVER THE INPUT: true; the input reads as it did. -/
def fnCompactCutSpec : ChangeSpec := { name := "fnCompactCut", fn := fun _ => fun
  | [d1, d2] => { results := [.lit (.bool true)], args := [d1, d2] }
  | _ => none }
def fnCompactCutRow : OpenClaim := { program := "ytaimljagflnfpaa", sum := "c922f513720769f4e00024a2df8c2fac8bfdd18ed476ae002d93ad5a44d55b27", func := "loop.example/lib-g01427/laws.FnCompactCut", spec := "fnCompactCut", inPlace := ["slices.overlaps[int]"], unfollowed := true, recurses := true, apart := false }
def FnCompactCutSaid : Prop := fnCompactCutRow.holds Try.pinned (OpenSpec.ofChange fnCompactCutSpec)

/-- ITS FALSE NEIGHBOUR: 'it returns false'. Refute it at one input. -/
def fnCompactCutWrong : ChangeSpec := { name := "fnCompactCut", fn := fun _ => fun
  | [d1, d2] => { results := [.lit (.bool false)], args := [d1, d2] }
  | _ => none }
def FnCompactCutWrongFalsely : Prop := fnCompactCutRow.holds Try.pinned (OpenSpec.ofChange fnCompactCutWrong)

/-- 'laws.FnCompactJoined': WHATEVER THE INPUT: true; the input reads as it did. -/
def fnCompactJoinedSpec : ChangeSpec := { name := "fnCompactJoined", fn := fun _ => fun
  | [d1, d2] => { results := [.lit (.bool true)], args := [d1, d2] }
  | _ => none }
def fnCompactJoinedRow : OpenClaim := { program := "ytaimljagflnfpaa", sum := "c922f513720769f4e00024a2df8c2fac8bfdd18ed476ae002d93ad5a44d55b27", func := "loop.example/lib-g01427/laws.FnCompactJoined", spec := "fnCompactJoined", inPlace := ["slices.overlaps[int]"], unfollowed := true, recurses := true, apart := false }
def FnCompactJoinedSaid : Prop := fnCompactJoinedRow.holds Try.pinned (OpenSpec.ofChange fnCompactJoinedSpec)

/-- ITS FALSE NEIGHBOUR: 'it returns false'. Refute it at one input. -/
def fnCompactJoinedWrong : ChangeSpec := { name := "fnCompactJoined", fn := fun _ => fun
  | [d1, d2] => { results := [.lit (.bool false)], args := [d1, d2] }
  | _ => none }
def FnCompactJoinedWrongFalsely : Prop := fnCompactJoinedRow.holds Try.pinned (OpenSpec.ofChange fnCompactJoinedWrong)

/-- 'laws.FnDeletesCommute': WHATEVER THE INPUT: true; the input reads as it did. -/
def fnDeletesCommuteSpec : ChangeSpec := { name := "fnDeletesCommute", fn := fun _ => fun
  | [d1, d2, d3, d4, d5] => { results := [.lit (.bool true)], args := [d1, d2, d3, d4, d5] }
  | _ => none }
def fnDeletesCommuteRow : OpenClaim := { program := "ytaimljagflnfpaa", sum := "c922f513720769f4e00024a2df8c2fac8bfdd18ed476ae002d93ad5a44d55b27", func := "loop.example/lib-g01427/laws.FnDeletesCommute", spec := "fnDeletesCommute", inPlace := ["slices.overlaps[int]"], unfollowed := true, recurses := true, apart := false }
def FnDeletesCommuteSaid : Prop := fnDeletesCommuteRow.holds Try.pinned (OpenSpec.ofChange fnDeletesCommuteSpec)

/-- ITS FALSE NEIGHBOUR: 'it returns false'. Refute it at one input. -/
def fnDeletesCommuteWrong : ChangeSpec := { name := "fnDeletesCommute", fn := fun _ => fun
  | [d1, d2, d3, d4, d5] => { results := [.lit (.bool false)], args := [d1, d2, d3, d4, d5] }
  | _ => none }
def FnDeletesCommuteWrongFalsely : Prop := fnDeletesCommuteRow.holds Try.pinned (OpenSpec.ofChange fnDeletesCommuteWrong)

/-- 'laws.FnEditsAhead': WHATEVER THE INPUT: true; the input reads as it did. -/
def fnEditsAheadSpec : ChangeSpec := { name := "fnEditsAhead", fn := fun _ => fun
  | [d1, d2, d3, d4, d5, d6] => { results := [.lit (.bool true)], args := [d1, d2, d3, d4, d5, d6] }
  | _ => none }
def fnEditsAheadRow : OpenClaim := { program := "ytaimljagflnfpaa", sum := "c922f513720769f4e00024a2df8c2fac8bfdd18ed476ae002d93ad5a44d55b27", func := "loop.example/lib-g01427/laws.FnEditsAhead", spec := "fnEditsAhead", inPlace := ["slices.overlaps[int]"], unfollowed := true, recurses := true, apart := false }
def FnEditsAheadSaid : Prop := fnEditsAheadRow.holds Try.pinned (OpenSpec.ofChange fnEditsAheadSpec)

/-- ITS FALSE NEIGHBOUR: 'it returns false'. Refute it at one input. -/
def fnEditsAheadWrong : ChangeSpec := { name := "fnEditsAhead", fn := fun _ => fun
  | [d1, d2, d3, d4, d5, d6] => { results := [.lit (.bool false)], args := [d1, d2, d3, d4, d5, d6] }
  | _ => none }
def FnEditsAheadWrongFalsely : Prop := fnEditsAheadRow.holds Try.pinned (OpenSpec.ofChange fnEditsAheadWrong)

/-- 'laws.FnEditsBehind': WHATEVER THE INPUT: true; the input reads as it did. -/
def fnEditsBehindSpec : ChangeSpec := { name := "fnEditsBehind", fn := fun _ => fun
  | [d1, d2, d3, d4, d5, d6] => { results := [.lit (.bool true)], args := [d1, d2, d3, d4, d5, d6] }
  | _ => none }
def fnEditsBehindRow : OpenClaim := { program := "ytaimljagflnfpaa", sum := "c922f513720769f4e00024a2df8c2fac8bfdd18ed476ae002d93ad5a44d55b27", func := "loop.example/lib-g01427/laws.FnEditsBehind", spec := "fnEditsBehind", inPlace := ["slices.overlaps[int]"], unfollowed := true, recurses := true, apart := false }
def FnEditsBehindSaid : Prop := fnEditsBehindRow.holds Try.pinned (OpenSpec.ofChange fnEditsBehindSpec)

/-- ITS FALSE NEIGHBOUR: 'it returns false'. Refute it at one input. -/
def fnEditsBehindWrong : ChangeSpec := { name := "fnEditsBehind", fn := fun _ => fun
  | [d1, d2, d3, d4, d5, d6] => { results := [.lit (.bool false)], args := [d1, d2, d3, d4, d5, d6] }
  | _ => none }
def FnEditsBehindWrongFalsely : Prop := fnEditsBehindRow.holds Try.pinned (OpenSpec.ofChange fnEditsBehindWrong)

/-- 'laws.FnEditsMapped': WHATEVER THE INPUT: true; the input reads as it did. -/
def fnEditsMappedSpec : ChangeSpec := { name := "fnEditsMapped", fn := fun _ => fun
  | [d1, d2, d3, d4, d5, d6] => { results := [.lit (.bool true)], args := [d1, d2, d3, d4, d5, d6] }
  | _ => none }
def fnEditsMappedRow : OpenClaim := { program := "ytaimljagflnfpaa", sum := "c922f513720769f4e00024a2df8c2fac8bfdd18ed476ae002d93ad5a44d55b27", func := "loop.example/lib-g01427/laws.FnEditsMapped", spec := "fnEditsMapped", inPlace := ["slices.overlaps[int]"], unfollowed := true, recurses := true, apart := false }
def FnEditsMappedSaid : Prop := fnEditsMappedRow.holds Try.pinned (OpenSpec.ofChange fnEditsMappedSpec)

/-- ITS FALSE NEIGHBOUR: 'it returns false'. Refute it at one input. -/
def fnEditsMappedWrong : ChangeSpec := { name := "fnEditsMapped", fn := fun _ => fun
  | [d1, d2, d3, d4, d5, d6] => { results := [.lit (.bool false)], args := [d1, d2, d3, d4, d5, d6] }
  | _ => none }
def FnEditsMappedWrongFalsely : Prop := fnEditsMappedRow.holds Try.pinned (OpenSpec.ofChange fnEditsMappedWrong)

/-- 'laws.FnEditsRoom': WHATEVER THE INPUT: true; the input reads as it did. -/
def fnEditsRoomSpec : ChangeSpec := { name := "fnEditsRoom", fn := fun _ => fun
  | [d1, d2, d3, d4, d5, d6, d7] => { results := [.lit (.bool true)], args := [d1, d2, d3, d4, d5, d6, d7] }
  | _ => none }
def fnEditsRoomRow : OpenClaim := { program := "ytaimljagflnfpaa", sum := "c922f513720769f4e00024a2df8c2fac8bfdd18ed476ae002d93ad5a44d55b27", func := "loop.example/lib-g01427/laws.FnEditsRoom", spec := "fnEditsRoom", inPlace := ["slices.overlaps[int]"], unfollowed := true, recurses := true, apart := false }
def FnEditsRoomSaid : Prop := fnEditsRoomRow.holds Try.pinned (OpenSpec.ofChange fnEditsRoomSpec)

/-- ITS FALSE NEIGHBOUR: 'it returns false'. Refute it at one input. -/
def fnEditsRoomWrong : ChangeSpec := { name := "fnEditsRoom", fn := fun _ => fun
  | [d1, d2, d3, d4, d5, d6, d7] => { results := [.lit (.bool false)], args := [d1, d2, d3, d4, d5, d6, d7] }
  | _ => none }
def FnEditsRoomWrongFalsely : Prop := fnEditsRoomRow.holds Try.pinned (OpenSpec.ofChange fnEditsRoomWrong)

/-- 'laws.FnEditsRun': WHATEVER THE INPUT: true; the input reads as it did. -/
def fnEditsRunSpec : ChangeSpec := { name := "fnEditsRun", fn := fun _ => fun
  | [d1, d2, d3, d4, d5, d6] => { results := [.lit (.bool true)], args := [d1, d2, d3, d4, d5, d6] }
  | _ => none }
def fnEditsRunRow : OpenClaim := { program := "ytaimljagflnfpaa", sum := "c922f513720769f4e00024a2df8c2fac8bfdd18ed476ae002d93ad5a44d55b27", func := "loop.example/lib-g01427/laws.FnEditsRun", spec := "fnEditsRun", inPlace := ["slices.overlaps[int]"], unfollowed := true, recurses := true, apart := false }
def FnEditsRunSaid : Prop := fnEditsRunRow.holds Try.pinned (OpenSpec.ofChange fnEditsRunSpec)

/-- ITS FALSE NEIGHBOUR: 'it returns false'. Refute it at one input. -/
def fnEditsRunWrong : ChangeSpec := { name := "fnEditsRun", fn := fun _ => fun
  | [d1, d2, d3, d4, d5, d6] => { results := [.lit (.bool false)], args := [d1, d2, d3, d4, d5, d6] }
  | _ => none }
def FnEditsRunWrongFalsely : Prop := fnEditsRunRow.holds Try.pinned (OpenSpec.ofChange fnEditsRunWrong)

/-- 'laws.FnEditsSame': WHATEVER THE INPUT: true; the input reads as it did. -/
def fnEditsSameSpec : ChangeSpec := { name := "fnEditsSame", fn := fun _ => fun
  | [d1, d2, d3, d4, d5, d6] => { results := [.lit (.bool true)], args := [d1, d2, d3, d4, d5, d6] }
  | _ => none }
def fnEditsSameRow : OpenClaim := { program := "ytaimljagflnfpaa", sum := "c922f513720769f4e00024a2df8c2fac8bfdd18ed476ae002d93ad5a44d55b27", func := "loop.example/lib-g01427/laws.FnEditsSame", spec := "fnEditsSame", inPlace := ["slices.overlaps[int]"], unfollowed := true, recurses := true, apart := false }
def FnEditsSameSaid : Prop := fnEditsSameRow.holds Try.pinned (OpenSpec.ofChange fnEditsSameSpec)

/-- ITS FALSE NEIGHBOUR: 'it returns false'. Refute it at one input. -/
def fnEditsSameWrong : ChangeSpec := { name := "fnEditsSame", fn := fun _ => fun
  | [d1, d2, d3, d4, d5, d6] => { results := [.lit (.bool false)], args := [d1, d2, d3, d4, d5, d6] }
  | _ => none }
def FnEditsSameWrongFalsely : Prop := fnEditsSameRow.holds Try.pinned (OpenSpec.ofChange fnEditsSameWrong)

/-- 'laws.FnEditsSplit': WHATEVER THE INPUT: true; the input reads as it did. -/
def fnEditsSplitSpec : ChangeSpec := { name := "fnEditsSplit", fn := fun _ => fun
  | [d1, d2, d3, d4, d5, d6] => { results := [.lit (.bool true)], args := [d1, d2, d3, d4, d5, d6] }
  | _ => none }
def fnEditsSplitRow : OpenClaim := { program := "ytaimljagflnfpaa", sum := "c922f513720769f4e00024a2df8c2fac8bfdd18ed476ae002d93ad5a44d55b27", func := "loop.example/lib-g01427/laws.FnEditsSplit", spec := "fnEditsSplit", inPlace := ["slices.overlaps[int]"], unfollowed := true, recurses := true, apart := false }
def FnEditsSplitSaid : Prop := fnEditsSplitRow.holds Try.pinned (OpenSpec.ofChange fnEditsSplitSpec)

/-- ITS FALSE NEIGHBOUR: 'it returns false'. Refute it at one input. -/
def fnEditsSplitWrong : ChangeSpec := { name := "fnEditsSplit", fn := fun _ => fun
  | [d1, d2, d3, d4, d5, d6] => { results := [.lit (.bool false)], args := [d1, d2, d3, d4, d5, d6] }
  | _ => none }
def FnEditsSplitWrongFalsely : Prop := fnEditsSplitRow.holds Try.pinned (OpenSpec.ofChange fnEditsSplitWrong)

/-- 'laws.FnEditsUndone': WHATEVER THE INPUT: true; the input reads as it did. -/
def fnEditsUndoneSpec : ChangeSpec := { name := "fnEditsUndone", fn := fun _ => fun
  | [d1, d2, d3, d4, d5] => { results := [.lit (.bool true)], args := [d1, d2, d3, d4, d5] }
  | _ => none }
def fnEditsUndoneRow : OpenClaim := { program := "ytaimljagflnfpaa", sum := "c922f513720769f4e00024a2df8c2fac8bfdd18ed476ae002d93ad5a44d55b27", func := "loop.example/lib-g01427/laws.FnEditsUndone", spec := "fnEditsUndone", inPlace := ["slices.overlaps[int]"], unfollowed := true, recurses := true, apart := false }
def FnEditsUndoneSaid : Prop := fnEditsUndoneRow.holds Try.pinned (OpenSpec.ofChange fnEditsUndoneSpec)

/-- ITS FALSE NEIGHBOUR: 'it returns false'. Refute it at one input. -/
def fnEditsUndoneWrong : ChangeSpec := { name := "fnEditsUndone", fn := fun _ => fun
  | [d1, d2, d3, d4, d5] => { results := [.lit (.bool false)], args := [d1, d2, d3, d4, d5] }
  | _ => none }
def FnEditsUndoneWrongFalsely : Prop := fnEditsUndoneRow.holds Try.pinned (OpenSpec.ofChange fnEditsUndoneWrong)

/-- 'laws.FnInsertsCommute': WHATEVER THE INPUT: true; the input reads as it did. -/
def fnInsertsCommuteSpec : ChangeSpec := { name := "fnInsertsCommute", fn := fun _ => fun
  | [d1, d2, d3, d4, d5] => { results := [.lit (.bool true)], args := [d1, d2, d3, d4, d5] }
  | _ => none }
def fnInsertsCommuteRow : OpenClaim := { program := "ytaimljagflnfpaa", sum := "c922f513720769f4e00024a2df8c2fac8bfdd18ed476ae002d93ad5a44d55b27", func := "loop.example/lib-g01427/laws.FnInsertsCommute", spec := "fnInsertsCommute", inPlace := ["slices.overlaps[int]"], unfollowed := true, recurses := true, apart := false }
def FnInsertsCommuteSaid : Prop := fnInsertsCommuteRow.holds Try.pinned (OpenSpec.ofChange fnInsertsCommuteSpec)

/-- ITS FALSE NEIGHBOUR: 'it returns false'. Refute it at one input. -/
def fnInsertsCommuteWrong : ChangeSpec := { name := "fnInsertsCommute", fn := fun _ => fun
  | [d1, d2, d3, d4, d5] => { results := [.lit (.bool false)], args := [d1, d2, d3, d4, d5] }
  | _ => none }
def FnInsertsCommuteWrongFalsely : Prop := fnInsertsCommuteRow.holds Try.pinned (OpenSpec.ofChange fnInsertsCommuteWrong)

/- THE SECOND FORM. 'bulk': how many values and letters a reading holds, each counted each time it is reached (what is shared counts as often as it is met; a slice's spare places count too). A statement '..UptoSaid' is the law's where the arguments, and the package variables that the reading takes, are together of bulk at most 1048576: NARROWER than '..Said'. Prove '..Said' where nothing that the law and all that it calls make is longer than what came in: it says more and counts as full. Else prove '..UptoSaid'. A law counts once. -/
mutual
def uptoBulk {H : Type} : DataW H → Nat
  | .lit (.string bytes) => bytes.length + 1
  | .lit _ => 1
  | .nil => 1
  | .ptr d => uptoBulk d + 1
  | .slice elems spare => uptoBulkAll elems + uptoBulkAll spare + 1
  | .agg parts => uptoBulkAll parts + 1
  | .iface _ d => uptoBulk d + 1
  | .map entries => uptoBulkEntries entries + 1
  | .held _ => 1
def uptoBulkAll {H : Type} : List (DataW H) → Nat
  | [] => 0
  | d :: r => uptoBulk d + uptoBulkAll r
def uptoBulkEntries {H : Type} : List (Lit × DataW H) → Nat
  | [] => 0
  | x :: r => uptoBulkEntry x + uptoBulkEntries r
def uptoBulkEntry {H : Type} : Lit × DataW H → Nat
  | (.string bytes, d) => bytes.length + uptoBulk d + 1
  | (_, d) => uptoBulk d + 1
 end
def uptoSmall : (H : Type) → List (DataW H) → Bool := fun _ ds => decide (uptoBulkAll ds ≤ 1048576)
def OpenSpec.upto (s : _root_.Go.ChangeSpec) : _root_.Go.OpenSpec := { _root_.Go.OpenSpec.ofChange s with cond := some uptoSmall }

/-- 'laws.FnCompactCut', WHERE WHAT IT READS IS OF BULK AT MOST 1048576: true; the input reads as it did. -/
def fnCompactCutUptoRow : OpenClaim := { program := "ytaimljagflnfpaa", sum := "c922f513720769f4e00024a2df8c2fac8bfdd18ed476ae002d93ad5a44d55b27", func := "loop.example/lib-g01427/laws.FnCompactCut", spec := "fnCompactCut", inPlace := ["slices.overlaps[int]"], unfollowed := true, recurses := true, apart := false, narrowed := true }
def FnCompactCutUptoSaid : Prop := fnCompactCutUptoRow.holds Try.pinned (OpenSpec.upto fnCompactCutSpec)

/-- 'laws.FnCompactJoined', WHERE WHAT IT READS IS OF BULK AT MOST 1048576: true; the input reads as it did. -/
def fnCompactJoinedUptoRow : OpenClaim := { program := "ytaimljagflnfpaa", sum := "c922f513720769f4e00024a2df8c2fac8bfdd18ed476ae002d93ad5a44d55b27", func := "loop.example/lib-g01427/laws.FnCompactJoined", spec := "fnCompactJoined", inPlace := ["slices.overlaps[int]"], unfollowed := true, recurses := true, apart := false, narrowed := true }
def FnCompactJoinedUptoSaid : Prop := fnCompactJoinedUptoRow.holds Try.pinned (OpenSpec.upto fnCompactJoinedSpec)

/-- 'laws.FnDeletesCommute', WHERE WHAT IT READS IS OF BULK AT MOST 1048576: true; the input reads as it did. -/
def fnDeletesCommuteUptoRow : OpenClaim := { program := "ytaimljagflnfpaa", sum := "c922f513720769f4e00024a2df8c2fac8bfdd18ed476ae002d93ad5a44d55b27", func := "loop.example/lib-g01427/laws.FnDeletesCommute", spec := "fnDeletesCommute", inPlace := ["slices.overlaps[int]"], unfollowed := true, recurses := true, apart := false, narrowed := true }
def FnDeletesCommuteUptoSaid : Prop := fnDeletesCommuteUptoRow.holds Try.pinned (OpenSpec.upto fnDeletesCommuteSpec)

/-- 'laws.FnEditsAhead', WHERE WHAT IT READS IS OF BULK AT MOST 1048576: true; the input reads as it did. -/
def fnEditsAheadUptoRow : OpenClaim := { program := "ytaimljagflnfpaa", sum := "c922f513720769f4e00024a2df8c2fac8bfdd18ed476ae002d93ad5a44d55b27", func := "loop.example/lib-g01427/laws.FnEditsAhead", spec := "fnEditsAhead", inPlace := ["slices.overlaps[int]"], unfollowed := true, recurses := true, apart := false, narrowed := true }
def FnEditsAheadUptoSaid : Prop := fnEditsAheadUptoRow.holds Try.pinned (OpenSpec.upto fnEditsAheadSpec)

/-- 'laws.FnEditsBehind', WHERE WHAT IT READS IS OF BULK AT MOST 1048576: true; the input reads as it did. -/
def fnEditsBehindUptoRow : OpenClaim := { program := "ytaimljagflnfpaa", sum := "c922f513720769f4e00024a2df8c2fac8bfdd18ed476ae002d93ad5a44d55b27", func := "loop.example/lib-g01427/laws.FnEditsBehind", spec := "fnEditsBehind", inPlace := ["slices.overlaps[int]"], unfollowed := true, recurses := true, apart := false, narrowed := true }
def FnEditsBehindUptoSaid : Prop := fnEditsBehindUptoRow.holds Try.pinned (OpenSpec.upto fnEditsBehindSpec)

/-- 'laws.FnEditsMapped', WHERE WHAT IT READS IS OF BULK AT MOST 1048576: true; the input reads as it did. -/
def fnEditsMappedUptoRow : OpenClaim := { program := "ytaimljagflnfpaa", sum := "c922f513720769f4e00024a2df8c2fac8bfdd18ed476ae002d93ad5a44d55b27", func := "loop.example/lib-g01427/laws.FnEditsMapped", spec := "fnEditsMapped", inPlace := ["slices.overlaps[int]"], unfollowed := true, recurses := true, apart := false, narrowed := true }
def FnEditsMappedUptoSaid : Prop := fnEditsMappedUptoRow.holds Try.pinned (OpenSpec.upto fnEditsMappedSpec)

/-- 'laws.FnEditsRoom', WHERE WHAT IT READS IS OF BULK AT MOST 1048576: true; the input reads as it did. -/
def fnEditsRoomUptoRow : OpenClaim := { program := "ytaimljagflnfpaa", sum := "c922f513720769f4e00024a2df8c2fac8bfdd18ed476ae002d93ad5a44d55b27", func := "loop.example/lib-g01427/laws.FnEditsRoom", spec := "fnEditsRoom", inPlace := ["slices.overlaps[int]"], unfollowed := true, recurses := true, apart := false, narrowed := true }
def FnEditsRoomUptoSaid : Prop := fnEditsRoomUptoRow.holds Try.pinned (OpenSpec.upto fnEditsRoomSpec)

/-- 'laws.FnEditsRun', WHERE WHAT IT READS IS OF BULK AT MOST 1048576: true; the input reads as it did. -/
def fnEditsRunUptoRow : OpenClaim := { program := "ytaimljagflnfpaa", sum := "c922f513720769f4e00024a2df8c2fac8bfdd18ed476ae002d93ad5a44d55b27", func := "loop.example/lib-g01427/laws.FnEditsRun", spec := "fnEditsRun", inPlace := ["slices.overlaps[int]"], unfollowed := true, recurses := true, apart := false, narrowed := true }
def FnEditsRunUptoSaid : Prop := fnEditsRunUptoRow.holds Try.pinned (OpenSpec.upto fnEditsRunSpec)

/-- 'laws.FnEditsSame', WHERE WHAT IT READS IS OF BULK AT MOST 1048576: true; the input reads as it did. -/
def fnEditsSameUptoRow : OpenClaim := { program := "ytaimljagflnfpaa", sum := "c922f513720769f4e00024a2df8c2fac8bfdd18ed476ae002d93ad5a44d55b27", func := "loop.example/lib-g01427/laws.FnEditsSame", spec := "fnEditsSame", inPlace := ["slices.overlaps[int]"], unfollowed := true, recurses := true, apart := false, narrowed := true }
def FnEditsSameUptoSaid : Prop := fnEditsSameUptoRow.holds Try.pinned (OpenSpec.upto fnEditsSameSpec)

/-- 'laws.FnEditsSplit', WHERE WHAT IT READS IS OF BULK AT MOST 1048576: true; the input reads as it did. -/
def fnEditsSplitUptoRow : OpenClaim := { program := "ytaimljagflnfpaa", sum := "c922f513720769f4e00024a2df8c2fac8bfdd18ed476ae002d93ad5a44d55b27", func := "loop.example/lib-g01427/laws.FnEditsSplit", spec := "fnEditsSplit", inPlace := ["slices.overlaps[int]"], unfollowed := true, recurses := true, apart := false, narrowed := true }
def FnEditsSplitUptoSaid : Prop := fnEditsSplitUptoRow.holds Try.pinned (OpenSpec.upto fnEditsSplitSpec)

/-- 'laws.FnEditsUndone', WHERE WHAT IT READS IS OF BULK AT MOST 1048576: true; the input reads as it did. -/
def fnEditsUndoneUptoRow : OpenClaim := { program := "ytaimljagflnfpaa", sum := "c922f513720769f4e00024a2df8c2fac8bfdd18ed476ae002d93ad5a44d55b27", func := "loop.example/lib-g01427/laws.FnEditsUndone", spec := "fnEditsUndone", inPlace := ["slices.overlaps[int]"], unfollowed := true, recurses := true, apart := false, narrowed := true }
def FnEditsUndoneUptoSaid : Prop := fnEditsUndoneUptoRow.holds Try.pinned (OpenSpec.upto fnEditsUndoneSpec)

/-- 'laws.FnInsertsCommute', WHERE WHAT IT READS IS OF BULK AT MOST 1048576: true; the input reads as it did. -/
def fnInsertsCommuteUptoRow : OpenClaim := { program := "ytaimljagflnfpaa", sum := "c922f513720769f4e00024a2df8c2fac8bfdd18ed476ae002d93ad5a44d55b27", func := "loop.example/lib-g01427/laws.FnInsertsCommute", spec := "fnInsertsCommute", inPlace := ["slices.overlaps[int]"], unfollowed := true, recurses := true, apart := false, narrowed := true }
def FnInsertsCommuteUptoSaid : Prop := fnInsertsCommuteUptoRow.holds Try.pinned (OpenSpec.upto fnInsertsCommuteSpec)

end Rows
end Go.Proofs.Ytaimljagflnfpaa

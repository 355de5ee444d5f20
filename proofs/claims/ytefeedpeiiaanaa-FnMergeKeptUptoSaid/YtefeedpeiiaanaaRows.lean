/-
  No cell of these rows narrows 'for every input' (looked for: loops, veiled, ifaces, maps, wideKeys, modest, calm, conditions, laid).
  DERIVED. THE GIVEN ROWS OF THIS SEAT. 10 by the template 'for every input the law returns true; each argument reads behind the call as it read before'; 0 by the template 'total and deterministic' (their statements: YtefeedpeiiaanaaTotals.lean).
  GIVEN WITH THE SEED: the statements are not yours to turn. If you find one false, say at which input.
  Laid BY PROGRAM, IN A SANDBOX (cutbox-rows.mjs): the forced cells as the released guide's own fill.sh prints them over the translation afdca297c7cee0ab… (all of the seat's roots in one cut). By AI agents, Wed Nov 11 2026. No macro, syntax, notation, axiom, sorry.
-/
import Derived.Test.YtefeedpeiiaanaaChecked
import GoSem.Claim
import GoSem.ClaimJoined
import GoSem.ClaimMapViews
import Derived.JoinedTies
import Derived.KernelRfl
namespace Go.Proofs.Ytefeedpeiiaanaa
/- THE CELL 'sum', in the pinned program and in every row, IS THE sha256 OF THE DUMP (.gsa) THAT YtefeedpeiiaanaaProg.lean LOADS. Nothing in Lean hashes anything: it is a label: what it is worth is what the hold of that sum in a sandbox is worth. -/
noncomputable def Try.pinned : Pinned := { name := "ytefeedpeiiaanaa", sum := "afdca297c7cee0ab62509797fb3fb0549a6f42dfe46de7317121adf863abbe40", checked := Try.checked }
namespace Rows
def none {H : Type} : Left H := { results := [], args := [] }

/-- 'laws.FnQueueAnyOrder': WHATEVER THE INPUT: true; the input reads as it did. -/
def fnQueueAnyOrderSpec : ChangeSpec := { name := "fnQueueAnyOrder", fn := fun _ => fun
  | [d1, d2, d3, d4] => { results := [.lit (.bool true)], args := [d1, d2, d3, d4] }
  | _ => none }
def fnQueueAnyOrderRow : OpenClaim := { program := "ytefeedpeiiaanaa", sum := "afdca297c7cee0ab62509797fb3fb0549a6f42dfe46de7317121adf863abbe40", func := "loop.example/lib-g01427/laws.FnQueueAnyOrder", spec := "fnQueueAnyOrder", inPlace := ["slices.overlaps[loop.example/lib-g01427/impl.Item]"], unfollowed := true, recurses := true, apart := false }
def FnQueueAnyOrderSaid : Prop := fnQueueAnyOrderRow.holds Try.pinned (OpenSpec.ofChange fnQueueAnyOrderSpec)

/-- ITS FALSE NEIGHBOUR: 'it returns false'. Refute it at one input. -/
def fnQueueAnyOrderWrong : ChangeSpec := { name := "fnQueueAnyOrder", fn := fun _ => fun
  | [d1, d2, d3, d4] => { results := [.lit (.bool false)], args := [d1, d2, d3, d4] }
  | _ => none }
def FnQueueAnyOrderWrongFalsely : Prop := fnQueueAnyOrderRow.holds Try.pinned (OpenSpec.ofChange fnQueueAnyOrderWrong)

/-- 'laws.FnDepthRank': WHATEVER THE INPUT: true; the input reads as it did. -/
def fnDepthRankSpec : ChangeSpec := { name := "fnDepthRank", fn := fun _ => fun
  | [d1, d2, d3, d4, d5, d6] => { results := [.lit (.bool true)], args := [d1, d2, d3, d4, d5, d6] }
  | _ => none }
def fnDepthRankRow : OpenClaim := { program := "ytefeedpeiiaanaa", sum := "afdca297c7cee0ab62509797fb3fb0549a6f42dfe46de7317121adf863abbe40", func := "loop.example/lib-g01427/laws.FnDepthRank", spec := "fnDepthRank", unfollowed := true, recurses := true, apart := false }
def FnDepthRankSaid : Prop := fnDepthRankRow.holds Try.pinned (OpenSpec.ofChange fnDepthRankSpec)

/-- ITS FALSE NEIGHBOUR: 'it returns false'. Refute it at one input. -/
def fnDepthRankWrong : ChangeSpec := { name := "fnDepthRank", fn := fun _ => fun
  | [d1, d2, d3, d4, d5, d6] => { results := [.lit (.bool false)], args := [d1, d2, d3, d4, d5, d6] }
  | _ => none }
def FnDepthRankWrongFalsely : Prop := fnDepthRankRow.holds Try.pinned (OpenSpec.ofChange fnDepthRankWrong)

/-- 'laws.FnQueueInits': WHATEVER THE INPUT: true; the input reads as it did. -/
def fnQueueInitsSpec : ChangeSpec := { name := "fnQueueInits", fn := fun _ => fun
  | [d1, d2, d3, d4, d5, d6, d7] => { results := [.lit (.bool true)], args := [d1, d2, d3, d4, d5, d6, d7] }
  | _ => none }
def fnQueueInitsRow : OpenClaim := { program := "ytefeedpeiiaanaa", sum := "afdca297c7cee0ab62509797fb3fb0549a6f42dfe46de7317121adf863abbe40", func := "loop.example/lib-g01427/laws.FnQueueInits", spec := "fnQueueInits", unfollowed := true, recurses := true, apart := false }
def FnQueueInitsSaid : Prop := fnQueueInitsRow.holds Try.pinned (OpenSpec.ofChange fnQueueInitsSpec)

/-- ITS FALSE NEIGHBOUR: 'it returns false'. Refute it at one input. -/
def fnQueueInitsWrong : ChangeSpec := { name := "fnQueueInits", fn := fun _ => fun
  | [d1, d2, d3, d4, d5, d6, d7] => { results := [.lit (.bool false)], args := [d1, d2, d3, d4, d5, d6, d7] }
  | _ => none }
def FnQueueInitsWrongFalsely : Prop := fnQueueInitsRow.holds Try.pinned (OpenSpec.ofChange fnQueueInitsWrong)

/-- 'laws.FnQueueKept': WHATEVER THE INPUT: true; the input reads as it did. -/
def fnQueueKeptSpec : ChangeSpec := { name := "fnQueueKept", fn := fun _ => fun
  | [d1, d2, d3, d4, d5, d6] => { results := [.lit (.bool true)], args := [d1, d2, d3, d4, d5, d6] }
  | _ => none }
def fnQueueKeptRow : OpenClaim := { program := "ytefeedpeiiaanaa", sum := "afdca297c7cee0ab62509797fb3fb0549a6f42dfe46de7317121adf863abbe40", func := "loop.example/lib-g01427/laws.FnQueueKept", spec := "fnQueueKept", inPlace := ["slices.overlaps[loop.example/lib-g01427/impl.Item]"], unfollowed := true, recurses := true, apart := false }
def FnQueueKeptSaid : Prop := fnQueueKeptRow.holds Try.pinned (OpenSpec.ofChange fnQueueKeptSpec)

/-- ITS FALSE NEIGHBOUR: 'it returns false'. Refute it at one input. -/
def fnQueueKeptWrong : ChangeSpec := { name := "fnQueueKept", fn := fun _ => fun
  | [d1, d2, d3, d4, d5, d6] => { results := [.lit (.bool false)], args := [d1, d2, d3, d4, d5, d6] }
  | _ => none }
def FnQueueKeptWrongFalsely : Prop := fnQueueKeptRow.holds Try.pinned (OpenSpec.ofChange fnQueueKeptWrong)

/-- 'laws.FnKeptAnyOrder': WHATEVER THE INPUT: true; the input reads as it did. -/
def fnKeptAnyOrderSpec : ChangeSpec := { name := "fnKeptAnyOrder", fn := fun _ => fun
  | [d1, d2, d3] => { results := [.lit (.bool true)], args := [d1, d2, d3] }
  | _ => none }
def fnKeptAnyOrderRow : OpenClaim := { program := "ytefeedpeiiaanaa", sum := "afdca297c7cee0ab62509797fb3fb0549a6f42dfe46de7317121adf863abbe40", func := "loop.example/lib-g01427/laws.FnKeptAnyOrder", spec := "fnKeptAnyOrder", inPlace := ["slices.overlaps[loop.example/lib-g01427/impl.Item]"], unfollowed := true, recurses := true, apart := false }
def FnKeptAnyOrderSaid : Prop := fnKeptAnyOrderRow.holds Try.pinned (OpenSpec.ofChange fnKeptAnyOrderSpec)

/-- ITS FALSE NEIGHBOUR: 'it returns false'. Refute it at one input. -/
def fnKeptAnyOrderWrong : ChangeSpec := { name := "fnKeptAnyOrder", fn := fun _ => fun
  | [d1, d2, d3] => { results := [.lit (.bool false)], args := [d1, d2, d3] }
  | _ => none }
def FnKeptAnyOrderWrongFalsely : Prop := fnKeptAnyOrderRow.holds Try.pinned (OpenSpec.ofChange fnKeptAnyOrderWrong)

/-- 'laws.FnKeptSorted': WHATEVER THE INPUT: true; the input reads as it did. -/
def fnKeptSortedSpec : ChangeSpec := { name := "fnKeptSorted", fn := fun _ => fun
  | [d1, d2, d3, d4, d5, d6] => { results := [.lit (.bool true)], args := [d1, d2, d3, d4, d5, d6] }
  | _ => none }
def fnKeptSortedRow : OpenClaim := { program := "ytefeedpeiiaanaa", sum := "afdca297c7cee0ab62509797fb3fb0549a6f42dfe46de7317121adf863abbe40", func := "loop.example/lib-g01427/laws.FnKeptSorted", spec := "fnKeptSorted", inPlace := ["slices.overlaps[loop.example/lib-g01427/impl.Item]"], unfollowed := true, recurses := true, apart := false }
def FnKeptSortedSaid : Prop := fnKeptSortedRow.holds Try.pinned (OpenSpec.ofChange fnKeptSortedSpec)

/-- ITS FALSE NEIGHBOUR: 'it returns false'. Refute it at one input. -/
def fnKeptSortedWrong : ChangeSpec := { name := "fnKeptSorted", fn := fun _ => fun
  | [d1, d2, d3, d4, d5, d6] => { results := [.lit (.bool false)], args := [d1, d2, d3, d4, d5, d6] }
  | _ => none }
def FnKeptSortedWrongFalsely : Prop := fnKeptSortedRow.holds Try.pinned (OpenSpec.ofChange fnKeptSortedWrong)

/-- 'laws.FnEndsOfHeap': WHATEVER THE INPUT: true; the input reads as it did. -/
def fnEndsOfHeapSpec : ChangeSpec := { name := "fnEndsOfHeap", fn := fun _ => fun
  | [d1, d2, d3, d4, d5, d6] => { results := [.lit (.bool true)], args := [d1, d2, d3, d4, d5, d6] }
  | _ => none }
def fnEndsOfHeapRow : OpenClaim := { program := "ytefeedpeiiaanaa", sum := "afdca297c7cee0ab62509797fb3fb0549a6f42dfe46de7317121adf863abbe40", func := "loop.example/lib-g01427/laws.FnEndsOfHeap", spec := "fnEndsOfHeap", inPlace := ["slices.overlaps[loop.example/lib-g01427/impl.Item]"], unfollowed := true, recurses := true, apart := false }
def FnEndsOfHeapSaid : Prop := fnEndsOfHeapRow.holds Try.pinned (OpenSpec.ofChange fnEndsOfHeapSpec)

/-- ITS FALSE NEIGHBOUR: 'it returns false'. Refute it at one input. -/
def fnEndsOfHeapWrong : ChangeSpec := { name := "fnEndsOfHeap", fn := fun _ => fun
  | [d1, d2, d3, d4, d5, d6] => { results := [.lit (.bool false)], args := [d1, d2, d3, d4, d5, d6] }
  | _ => none }
def FnEndsOfHeapWrongFalsely : Prop := fnEndsOfHeapRow.holds Try.pinned (OpenSpec.ofChange fnEndsOfHeapWrong)

/-- 'laws.FnFixUndo': WHATEVER THE INPUT: true; the input reads as it did. -/
def fnFixUndoSpec : ChangeSpec := { name := "fnFixUndo", fn := fun _ => fun
  | [d1, d2, d3, d4] => { results := [.lit (.bool true)], args := [d1, d2, d3, d4] }
  | _ => none }
def fnFixUndoRow : OpenClaim := { program := "ytefeedpeiiaanaa", sum := "afdca297c7cee0ab62509797fb3fb0549a6f42dfe46de7317121adf863abbe40", func := "loop.example/lib-g01427/laws.FnFixUndo", spec := "fnFixUndo", inPlace := ["slices.overlaps[loop.example/lib-g01427/impl.Item]"], unfollowed := true, recurses := true, apart := false }
def FnFixUndoSaid : Prop := fnFixUndoRow.holds Try.pinned (OpenSpec.ofChange fnFixUndoSpec)

/-- ITS FALSE NEIGHBOUR: 'it returns false'. Refute it at one input. -/
def fnFixUndoWrong : ChangeSpec := { name := "fnFixUndo", fn := fun _ => fun
  | [d1, d2, d3, d4] => { results := [.lit (.bool false)], args := [d1, d2, d3, d4] }
  | _ => none }
def FnFixUndoWrongFalsely : Prop := fnFixUndoRow.holds Try.pinned (OpenSpec.ofChange fnFixUndoWrong)

/-- 'laws.FnKeptUndo': WHATEVER THE INPUT: true; the input reads as it did. -/
def fnKeptUndoSpec : ChangeSpec := { name := "fnKeptUndo", fn := fun _ => fun
  | [d1, d2, d3, d4, d5] => { results := [.lit (.bool true)], args := [d1, d2, d3, d4, d5] }
  | _ => none }
def fnKeptUndoRow : OpenClaim := { program := "ytefeedpeiiaanaa", sum := "afdca297c7cee0ab62509797fb3fb0549a6f42dfe46de7317121adf863abbe40", func := "loop.example/lib-g01427/laws.FnKeptUndo", spec := "fnKeptUndo", inPlace := ["slices.overlaps[loop.example/lib-g01427/impl.Item]"], unfollowed := true, recurses := true, apart := false }
def FnKeptUndoSaid : Prop := fnKeptUndoRow.holds Try.pinned (OpenSpec.ofChange fnKeptUndoSpec)

/-- ITS FALSE NEIGHBOUR: 'it returns false'. Refute it at one input. -/
def fnKeptUndoWrong : ChangeSpec := { name := "fnKeptUndo", fn := fun _ => fun
  | [d1, d2, d3, d4, d5] => { results := [.lit (.bool false)], args := [d1, d2, d3, d4, d5] }
  | _ => none }
def FnKeptUndoWrongFalsely : Prop := fnKeptUndoRow.holds Try.pinned (OpenSpec.ofChange fnKeptUndoWrong)

/-- 'laws.FnMergeKept': WHATEVER THE INPUT: true; the input reads as it did. -/
def fnMergeKeptSpec : ChangeSpec := { name := "fnMergeKept", fn := fun _ => fun
  | [d1, d2, d3, d4] => { results := [.lit (.bool true)], args := [d1, d2, d3, d4] }
  | _ => none }
def fnMergeKeptRow : OpenClaim := { program := "ytefeedpeiiaanaa", sum := "afdca297c7cee0ab62509797fb3fb0549a6f42dfe46de7317121adf863abbe40", func := "loop.example/lib-g01427/laws.FnMergeKept", spec := "fnMergeKept", inPlace := ["slices.overlaps[loop.example/lib-g01427/impl.Item]"], unfollowed := true, recurses := true, apart := false }
def FnMergeKeptSaid : Prop := fnMergeKeptRow.holds Try.pinned (OpenSpec.ofChange fnMergeKeptSpec)

/-- ITS FALSE NEIGHBOUR: 'it returns false'. Refute it at one input. -/
def fnMergeKeptWrong : ChangeSpec := { name := "fnMergeKept", fn := fun _ => fun
  | [d1, d2, d3, d4] => { results := [.lit (.bool false)], args := [d1, d2, d3, d4] }
  | _ => none }
def FnMergeKeptWrongFalsely : Prop := fnMergeKeptRow.holds Try.pinned (OpenSpec.ofChange fnMergeKeptWrong)

/- THE SECOND FORM. 'bulk': how many values and letters a reading holds, each counted each time it is reached (what is shared counts as often as it is met; a slice's spare places count too). A statement '..UptoSaid' is the law's where the arguments, and the package variables that the reading takes, are together of bulk at most 1048576: NARROWER than '..Said'. Prove '..Said' where nothing that the law and all that it calls make is longer than what came in: it says more and counts as full. Else prove '..UptoSaid'. A law counts once. -/
mutual
def uptoBulk {H : Type} : DataW H → Nat
  | .lit (.string bytes) => bytes.length + 1
  | .lit _ => 1
  | .nil => 1
  | .ptr d => uptoBulk d + 1
  | .slice elems spare => uptoBulkAll elems + uptoBulkAll spare + 1
  | .agg parts => uptoBulkAll parts + 1
  | .iface _ d => uptoBulk d + 1
  | .map entries => uptoBulkEntries entries + 1
  | .held _ => 1
def uptoBulkAll {H : Type} : List (DataW H) → Nat
  | [] => 0
  | d :: r => uptoBulk d + uptoBulkAll r
def uptoBulkEntries {H : Type} : List (Lit × DataW H) → Nat
  | [] => 0
  | x :: r => uptoBulkEntry x + uptoBulkEntries r
def uptoBulkEntry {H : Type} : Lit × DataW H → Nat
  | (.string bytes, d) => bytes.length + uptoBulk d + 1
  | (_, d) => uptoBulk d + 1
 end
def uptoSmall : (H : Type) → List (DataW H) → Bool := fun _ ds => decide (uptoBulkAll ds ≤ 1048576)
def OpenSpec.upto (s : _root_.Go.ChangeSpec) : _root_.Go.OpenSpec := { _root_.Go.OpenSpec.ofChange s with cond := some uptoSmall }

/-- 'laws.FnQueueAnyOrder', WHERE WHAT IT READS IS OF BULK AT MOST 1048576: true; the input reads as it did. -/
def fnQueueAnyOrderUptoRow : OpenClaim := { program := "ytefeedpeiiaanaa", sum := "afdca297c7cee0ab62509797fb3fb0549a6f42dfe46de7317121adf863abbe40", func := "loop.example/lib-g01427/laws.FnQueueAnyOrder", spec := "fnQueueAnyOrder", inPlace := ["slices.overlaps[loop.example/lib-g01427/impl.Item]"], unfollowed := true, recurses := true, apart := false, narrowed := true }
def FnQueueAnyOrderUptoSaid : Prop := fnQueueAnyOrderUptoRow.holds Try.pinned (OpenSpec.upto fnQueueAnyOrderSpec)

/-- 'laws.FnDepthRank', WHERE WHAT IT READS IS OF BULK AT MOST 1048576: true; the input reads as it did. -/
def fnDepthRankUptoRow : OpenClaim := { program := "ytefeedpeiiaanaa", sum := "afdca297c7cee0ab62509797fb3fb0549a6f42dfe46de7317121adf863abbe40", func := "loop.example/lib-g01427/laws.FnDepthRank", spec := "fnDepthRank", unfollowed := true, recurses := true, apart := false, narrowed := true }
def FnDepthRankUptoSaid : Prop := fnDepthRankUptoRow.holds Try.pinned (OpenSpec.upto fnDepthRankSpec)

/-- 'laws.FnQueueInits', WHERE WHAT IT READS IS OF BULK AT MOST 1048576: true; the input reads as it did. -/
def fnQueueInitsUptoRow : OpenClaim := { program := "ytefeedpeiiaanaa", sum := "afdca297c7cee0ab62509797fb3fb0549a6f42dfe46de7317121adf863abbe40", func := "loop.example/lib-g01427/laws.FnQueueInits", spec := "fnQueueInits", unfollowed := true, recurses := true, apart := false, narrowed := true }
def FnQueueInitsUptoSaid : Prop := fnQueueInitsUptoRow.holds Try.pinned (OpenSpec.upto fnQueueInitsSpec)

/-- 'laws.FnQueueKept', WHERE WHAT IT READS IS OF BULK AT MOST 1048576: true; the input reads as it did. -/
def fnQueueKeptUptoRow : OpenClaim := { program := "ytefeedpeiiaanaa", sum := "afdca297c7cee0ab62509797fb3fb0549a6f42dfe46de7317121adf863abbe40", func := "loop.example/lib-g01427/laws.FnQueueKept", spec := "fnQueueKept", inPlace := ["slices.overlaps[loop.example/lib-g01427/impl.Item]"], unfollowed := true, recurses := true, apart := false, narrowed := true }
def FnQueueKeptUptoSaid : Prop := fnQueueKeptUptoRow.holds Try.pinned (OpenSpec.upto fnQueueKeptSpec)

/-- 'laws.FnKeptAnyOrder', WHERE WHAT IT READS IS OF BULK AT MOST 1048576: true; the input reads as it did. -/
def fnKeptAnyOrderUptoRow : OpenClaim := { program := "ytefeedpeiiaanaa", sum := "afdca297c7cee0ab62509797fb3fb0549a6f42dfe46de7317121adf863abbe40", func := "loop.example/lib-g01427/laws.FnKeptAnyOrder", spec := "fnKeptAnyOrder", inPlace := ["slices.overlaps[loop.example/lib-g01427/impl.Item]"], unfollowed := true, recurses := true, apart := false, narrowed := true }
def FnKeptAnyOrderUptoSaid : Prop := fnKeptAnyOrderUptoRow.holds Try.pinned (OpenSpec.upto fnKeptAnyOrderSpec)

/-- 'laws.FnKeptSorted', WHERE WHAT IT READS IS OF BULK AT MOST 1048576: true; the input reads as it did. -/
def fnKeptSortedUptoRow : OpenClaim := { program := "ytefeedpeiiaanaa", sum := "afdca297c7cee0ab62509797fb3fb0549a6f42dfe46de7317121adf863abbe40", func := "loop.example/lib-g01427/laws.FnKeptSorted", spec := "fnKeptSorted", inPlace := ["slices.overlaps[loop.example/lib-g01427/impl.Item]"], unfollowed := true, recurses := true, apart := false, narrowed := true }
def FnKeptSortedUptoSaid : Prop := fnKeptSortedUptoRow.holds Try.pinned (OpenSpec.upto fnKeptSortedSpec)

/-- 'laws.FnEndsOfHeap', WHERE WHAT IT READS IS OF BULK AT MOST 1048576: true; the input reads as it did. -/
def fnEndsOfHeapUptoRow : OpenClaim := { program := "ytefeedpeiiaanaa", sum := "afdca297c7cee0ab62509797fb3fb0549a6f42dfe46de7317121adf863abbe40", func := "loop.example/lib-g01427/laws.FnEndsOfHeap", spec := "fnEndsOfHeap", inPlace := ["slices.overlaps[loop.example/lib-g01427/impl.Item]"], unfollowed := true, recurses := true, apart := false, narrowed := true }
def FnEndsOfHeapUptoSaid : Prop := fnEndsOfHeapUptoRow.holds Try.pinned (OpenSpec.upto fnEndsOfHeapSpec)

/-- 'laws.FnFixUndo', WHERE WHAT IT READS IS OF BULK AT MOST 1048576: true; the input reads as it did. -/
def fnFixUndoUptoRow : OpenClaim := { program := "ytefeedpeiiaanaa", sum := "afdca297c7cee0ab62509797fb3fb0549a6f42dfe46de7317121adf863abbe40", func := "loop.example/lib-g01427/laws.FnFixUndo", spec := "fnFixUndo", inPlace := ["slices.overlaps[loop.example/lib-g01427/impl.Item]"], unfollowed := true, recurses := true, apart := false, narrowed := true }
def FnFixUndoUptoSaid : Prop := fnFixUndoUptoRow.holds Try.pinned (OpenSpec.upto fnFixUndoSpec)

/-- 'laws.FnKeptUndo', WHERE WHAT IT READS IS OF BULK AT MOST 1048576: true; the input reads as it did. -/
def fnKeptUndoUptoRow : OpenClaim := { program := "ytefeedpeiiaanaa", sum := "afdca297c7cee0ab62509797fb3fb0549a6f42dfe46de7317121adf863abbe40", func := "loop.example/lib-g01427/laws.FnKeptUndo", spec := "fnKeptUndo", inPlace := ["slices.overlaps[loop.example/lib-g01427/impl.Item]"], unfollowed := true, recurses := true, apart := false, narrowed := true }
def FnKeptUndoUptoSaid : Prop := fnKeptUndoUptoRow.holds Try.pinned (OpenSpec.upto fnKeptUndoSpec)

/-- 'laws.FnMergeKept', WHERE WHAT IT READS IS OF BULK AT MOST 1048576: true; the input reads as it did. -/
def fnMergeKeptUptoRow : OpenClaim := { program := "ytefeedpeiiaanaa", sum := "afdca297c7cee0ab62509797fb3fb0549a6f42dfe46de7317121adf863abbe40", func := "loop.example/lib-g01427/laws.FnMergeKept", spec := "fnMergeKept", inPlace := ["slices.overlaps[loop.example/lib-g01427/impl.Item]"], unfollowed := true, recurses := true, apart := false, narrowed := true }
def FnMergeKeptUptoSaid : Prop := fnMergeKeptUptoRow.holds Try.pinned (OpenSpec.upto fnMergeKeptSpec)

end Rows
end Go.Proofs.Ytefeedpeiiaanaa

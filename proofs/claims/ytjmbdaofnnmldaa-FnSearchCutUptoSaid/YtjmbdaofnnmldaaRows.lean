/-
  No cell of these rows narrows 'for every input' (looked for: loops, veiled, ifaces, maps, wideKeys, modest, calm, conditions, laid).
  DERIVED. THE GIVEN ROWS OF THIS SEAT. 3 by the template 'for every input the law returns true; each argument reads behind the call as it read before'; 0 by the template 'total and deterministic' (their statements: YtjmbdaofnnmldaaTotals.lean).
  GIVEN WITH THE SEED: the statements are not yours to turn. If you find one false, say at which input.
  Laid BY PROGRAM, IN A SANDBOX (cutbox-rows.mjs): the forced cells as the released guide's own fill.sh prints them over the translation 6f179cb3d244a7aa… (all of the seat's roots in one cut). By AI agents, Wed Nov 11 2026. No macro, syntax, notation, axiom, sorry.
-/
import Derived.Test.YtjmbdaofnnmldaaChecked
import GoSem.Claim
import GoSem.ClaimJoined
import GoSem.ClaimMapViews
import Derived.JoinedTies
import Derived.KernelRfl
namespace Go.Proofs.Ytjmbdaofnnmldaa
/- THE CELL 'sum', in the pinned program and in every row, IS THE sha256 OF THE DUMP (.gsa) THAT YtjmbdaofnnmldaaProg.lean LOADS. Nothing in Lean hashes anything: it is a label: what it is worth is what the hold of that sum in a sandbox is worth. -/
noncomputable def Try.pinned : Pinned := { name := "ytjmbdaofnnmldaa", sum := "6f179cb3d244a7aada40105231031f166f00b3130f2f400373d46bc4b1bcbf24", checked := Try.checked }
namespace Rows
def none {H : Type} : Left H := { results := [], args := [] }

/-- 'laws.FnSearchAsks': WHATEVER THE INPUT: true; the input reads as it did. -/
def fnSearchAsksSpec : ChangeSpec := { name := "fnSearchAsks", fn := fun _ => fun
  | [d1, d2] => { results := [.lit (.bool true)], args := [d1, d2] }
  | _ => none }
def fnSearchAsksRow : OpenClaim := { program := "ytjmbdaofnnmldaa", sum := "6f179cb3d244a7aada40105231031f166f00b3130f2f400373d46bc4b1bcbf24", func := "loop.example/lib-g01427/laws.FnSearchAsks", spec := "fnSearchAsks", unfollowed := true, recurses := true, apart := false }
def FnSearchAsksSaid : Prop := fnSearchAsksRow.holds Try.pinned (OpenSpec.ofChange fnSearchAsksSpec)

/-- ITS FALSE NEIGHBOUR: 'it returns false'. Refute it at one input. -/
def fnSearchAsksWrong : ChangeSpec := { name := "fnSearchAsks", fn := fun _ => fun
  | [d1, d2] => { results := [.lit (.bool false)], args := [d1, d2] }
  | _ => none }
def FnSearchAsksWrongFalsely : Prop := fnSearchAsksRow.holds Try.pinned (OpenSpec.ofChange fnSearchAsksWrong)

/-- 'laws.FnSearchBoth': WHATEVER THE INPUT: true; the input reads as it did. -/
def fnSearchBothSpec : ChangeSpec := { name := "fnSearchBoth", fn := fun _ => fun
  | [d1, d2] => { results := [.lit (.bool true)], args := [d1, d2] }
  | _ => none }
def fnSearchBothRow : OpenClaim := { program := "ytjmbdaofnnmldaa", sum := "6f179cb3d244a7aada40105231031f166f00b3130f2f400373d46bc4b1bcbf24", func := "loop.example/lib-g01427/laws.FnSearchBoth", spec := "fnSearchBoth", unfollowed := true, recurses := true, apart := false }
def FnSearchBothSaid : Prop := fnSearchBothRow.holds Try.pinned (OpenSpec.ofChange fnSearchBothSpec)

/-- ITS FALSE NEIGHBOUR: 'it returns false'. Refute it at one input. -/
def fnSearchBothWrong : ChangeSpec := { name := "fnSearchBoth", fn := fun _ => fun
  | [d1, d2] => { results := [.lit (.bool false)], args := [d1, d2] }
  | _ => none }
def FnSearchBothWrongFalsely : Prop := fnSearchBothRow.holds Try.pinned (OpenSpec.ofChange fnSearchBothWrong)

/-- 'laws.FnSearchCut': WHATEVER THE INPUT: true; the input reads as it did. -/
def fnSearchCutSpec : ChangeSpec := { name := "fnSearchCut", fn := fun _ => fun
  | [d1, d2, d3] => { results := [.lit (.bool true)], args := [d1, d2, d3] }
  | _ => none }
def fnSearchCutRow : OpenClaim := { program := "ytjmbdaofnnmldaa", sum := "6f179cb3d244a7aada40105231031f166f00b3130f2f400373d46bc4b1bcbf24", func := "loop.example/lib-g01427/laws.FnSearchCut", spec := "fnSearchCut", unfollowed := true, recurses := true, apart := false }
def FnSearchCutSaid : Prop := fnSearchCutRow.holds Try.pinned (OpenSpec.ofChange fnSearchCutSpec)

/-- ITS FALSE NEIGHBOUR: 'it returns false'. Refute it at one input. -/
def fnSearchCutWrong : ChangeSpec := { name := "fnSearchCut", fn := fun _ => fun
  | [d1, d2, d3] => { results := [.lit (.bool false)], args := [d1, d2, d3] }
  | _ => none }
def FnSearchCutWrongFalsely : Prop := fnSearchCutRow.holds Try.pinned (OpenSpec.ofChange fnSearchCutWrong)

/- THE SECOND FORM. 'bulk': how many values and letters a reading holds, each counted each time it is reached (what is shared counts as often as it is met; a slice's spare places count too). A statement '..UptoSaid' is the law's where the arguments, and the package variables that the reading takes, are together of bulk at most 1048576: NARROWER than '..Said'. Prove '..Said' where nothing that the law and all that it calls make is longer than what came in: it says more and counts as full. Else prove '..UptoSaid'. A law counts once. -/
mutual
def uptoBulk {H : Type} : DataW H → Nat
  | .lit (.string bytes) => bytes.length + 1
  | .lit _ => 1
  | .nil => 1
  | .ptr d => uptoBulk d + 1
  | .slice elems spare => uptoBulkAll elems + uptoBulkAll spare + 1
  | .agg parts => uptoBulkAll parts + 1
  | .iface _ d => uptoBulk d + 1
  | .map entries => uptoBulkEntries entries + 1
  | .held _ => 1
def uptoBulkAll {H : Type} : List (DataW H) → Nat
  | [] => 0
  | d :: r => uptoBulk d + uptoBulkAll r
def uptoBulkEntries {H : Type} : List (Lit × DataW H) → Nat
  | [] => 0
  | x :: r => uptoBulkEntry x + uptoBulkEntries r
def uptoBulkEntry {H : Type} : Lit × DataW H → Nat
  | (.string bytes, d) => bytes.length + uptoBulk d + 1
  | (_, d) => uptoBulk d + 1
 end
def uptoSmall : (H : Type) → List (DataW H) → Bool := fun _ ds => decide (uptoBulkAll ds ≤ 1048576)
def OpenSpec.upto (s : _root_.Go.ChangeSpec) : _root_.Go.OpenSpec := { _root_.Go.OpenSpec.ofChange s with cond := some uptoSmall }

/-- 'laws.FnSearchAsks', WHERE WHAT IT READS IS OF BULK AT MOST 1048576: true; the input reads as it did. -/
def fnSearchAsksUptoRow : OpenClaim := { program := "ytjmbdaofnnmldaa", sum := "6f179cb3d244a7aada40105231031f166f00b3130f2f400373d46bc4b1bcbf24", func := "loop.example/lib-g01427/laws.FnSearchAsks", spec := "fnSearchAsks", unfollowed := true, recurses := true, apart := false, narrowed := true }
def FnSearchAsksUptoSaid : Prop := fnSearchAsksUptoRow.holds Try.pinned (OpenSpec.upto fnSearchAsksSpec)

/-- 'laws.FnSearchBoth', WHERE WHAT IT READS IS OF BULK AT MOST 1048576: true; the input reads as it did. -/
def fnSearchBothUptoRow : OpenClaim := { program := "ytjmbdaofnnmldaa", sum := "6f179cb3d244a7aada40105231031f166f00b3130f2f400373d46bc4b1bcbf24", func := "loop.example/lib-g01427/laws.FnSearchBoth", spec := "fnSearchBoth", unfollowed := true, recurses := true, apart := false, narrowed := true }
def FnSearchBothUptoSaid : Prop := fnSearchBothUptoRow.holds Try.pinned (OpenSpec.upto fnSearchBothSpec)

/-- 'laws.FnSearchCut', WHERE WHAT IT READS IS OF BULK AT MOST 1048576: true; the input reads as it did. -/
def fnSearchCutUptoRow : OpenClaim := { program := "ytjmbdaofnnmldaa", sum := "6f179cb3d244a7aada40105231031f166f00b3130f2f400373d46bc4b1bcbf24", func := "loop.example/lib-g01427/laws.FnSearchCut", spec := "fnSearchCut", unfollowed := true, recurses := true, apart := false, narrowed := true }
def FnSearchCutUptoSaid : Prop := fnSearchCutUptoRow.holds Try.pinned (OpenSpec.upto fnSearchCutSpec)

end Rows
end Go.Proofs.Ytjmbdaofnnmldaa

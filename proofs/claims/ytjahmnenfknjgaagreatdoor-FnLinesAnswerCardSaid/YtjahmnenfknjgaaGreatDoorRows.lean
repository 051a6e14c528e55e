/-
  NARROWER THAN 'FOR EVERY INPUT', by the rows' own cells (each row's printed sentence says how): FnResolveAnswer: laid · FnRulesJoin: laid · FnLinesAnswer: laid.
  DERIVED. THE GIVEN ROWS OF THIS SEAT. 3 by the template 'for every input the law returns true; each argument reads behind the call as it read before'; 0 by the template 'total and deterministic' (their statements: YtjahmnenfknjgaaGreatDoorTotals.lean).
  GIVEN WITH THE SEED: the statements are not yours to turn. If you find one false, say at which input.
  Laid BY PROGRAM, IN A SANDBOX (cutbox-rows.mjs): the forced cells as the released guide's own fill.sh prints them over the translation 7d4f3e3cd508d5c3… (all of the seat's roots in one cut). By AI agents, Wed Nov 11 2026. No macro, syntax, notation, axiom, sorry.
-/
import Derived.Test.YtjahmnenfknjgaaGreatDoorChecked
import GoSem.Claim
import GoSem.ClaimJoined
import GoSem.ClaimMapViews
import Derived.JoinedTies
import Derived.KernelRfl
namespace Go.Proofs.YtjahmnenfknjgaaGreatDoor
/- THE CELL 'sum', in the pinned program and in every row, IS THE sha256 OF THE DUMP (.gsa) THAT YtjahmnenfknjgaaGreatDoorProg.lean LOADS. Nothing in Lean hashes anything: it is a label: what it is worth is what the hold of that sum in a sandbox is worth. -/
noncomputable def Tryz.pinned : Pinned := { name := "ytjahmnenfknjgaagreatdoor", sum := "7d4f3e3cd508d5c3cf3adda905f821b64f4c41198d3966ee0f34eb171455d948", checked := Tryz.checked }
namespace Rows
def none {H : Type} : Left H := { results := [], args := [] }

/- WHAT THE LISTED PACKAGE-LEVEL VARIABLES READ AS WHEN THE CALL BEGINS. Each datum BY PROGRAM (the guide's laid-datum.mjs) off the statement by which the dump's own 'gosem.cut.vars' lays the variable. In a bare row this is a premise. The card (YtjahmnenfknjgaaGreatDoorCards.lean) ties it to the program's text. -/
def laid_loop_example_pub_g01449_impl_classes {H : Type} : DataW H := .agg [.lit (.int .u64 0), .lit (.int .u64 1), .lit (.int .u64 2), .lit (.int .u64 3), .lit (.int .u64 4), .lit (.int .u64 5), .lit (.int .u64 6), .lit (.int .u64 7), .lit (.int .u64 8), .lit (.int .u64 9), .lit (.int .u64 10), .lit (.int .u64 11), .lit (.int .u64 12), .lit (.int .u64 13), .lit (.int .u64 16), .lit (.int .u64 17), .lit (.int .u64 18), .lit (.int .u64 19), .lit (.int .u64 20), .lit (.int .u64 21), .lit (.int .u64 22), .lit (.int .u64 23), .lit (.int .u64 24)]

/-- 'laws.FnResolveAnswer': WHATEVER THE INPUT: true; the input reads as it did. -/
def fnResolveAnswerSpec : ChangeSpec := { name := "fnResolveAnswer", vars := ["loop.example/pub-g01449/impl.classes"], fn := fun _ => fun
  | [d1, d2, d3, d4, g1] => { results := [.lit (.bool true)], args := [d1, d2, d3, d4], vars := [g1] }
  | _ => none }
def fnResolveAnswerRow : OpenClaim := { program := "ytjahmnenfknjgaagreatdoor", sum := "7d4f3e3cd508d5c3cf3adda905f821b64f4c41198d3966ee0f34eb171455d948", func := "loop.example/pub-g01449/laws.FnResolveAnswer", spec := "fnResolveAnswer", unfollowed := true, recurses := true, named := ["loop.example/pub-g01449/impl.classes"], apart := false, laid := [("loop.example/pub-g01449/impl.classes", laid_loop_example_pub_g01449_impl_classes)] }
def FnResolveAnswerSaid : Prop := fnResolveAnswerRow.holds Tryz.pinned (OpenSpec.ofChange fnResolveAnswerSpec)

/-- ITS FALSE NEIGHBOUR: 'it returns false'. Refute it at one input. -/
def fnResolveAnswerWrong : ChangeSpec := { name := "fnResolveAnswer", vars := ["loop.example/pub-g01449/impl.classes"], fn := fun _ => fun
  | [d1, d2, d3, d4, g1] => { results := [.lit (.bool false)], args := [d1, d2, d3, d4], vars := [g1] }
  | _ => none }
def FnResolveAnswerWrongFalsely : Prop := fnResolveAnswerRow.holds Tryz.pinned (OpenSpec.ofChange fnResolveAnswerWrong)

/-- 'laws.FnRulesJoin': WHATEVER THE INPUT: true; the input reads as it did. -/
def fnRulesJoinSpec : ChangeSpec := { name := "fnRulesJoin", vars := ["loop.example/pub-g01449/impl.classes"], fn := fun _ => fun
  | [d1, d2, d3, d4, g1] => { results := [.lit (.bool true)], args := [d1, d2, d3, d4], vars := [g1] }
  | _ => none }
def fnRulesJoinRow : OpenClaim := { program := "ytjahmnenfknjgaagreatdoor", sum := "7d4f3e3cd508d5c3cf3adda905f821b64f4c41198d3966ee0f34eb171455d948", func := "loop.example/pub-g01449/laws.FnRulesJoin", spec := "fnRulesJoin", unfollowed := true, recurses := true, named := ["loop.example/pub-g01449/impl.classes"], apart := false, laid := [("loop.example/pub-g01449/impl.classes", laid_loop_example_pub_g01449_impl_classes)] }
def FnRulesJoinSaid : Prop := fnRulesJoinRow.holds Tryz.pinned (OpenSpec.ofChange fnRulesJoinSpec)

/-- ITS FALSE NEIGHBOUR: 'it returns false'. Refute it at one input. -/
def fnRulesJoinWrong : ChangeSpec := { name := "fnRulesJoin", vars := ["loop.example/pub-g01449/impl.classes"], fn := fun _ => fun
  | [d1, d2, d3, d4, g1] => { results := [.lit (.bool false)], args := [d1, d2, d3, d4], vars := [g1] }
  | _ => none }
def FnRulesJoinWrongFalsely : Prop := fnRulesJoinRow.holds Tryz.pinned (OpenSpec.ofChange fnRulesJoinWrong)

/-- 'laws.FnLinesAnswer': WHATEVER THE INPUT: true; the input reads as it did. -/
def fnLinesAnswerSpec : ChangeSpec := { name := "fnLinesAnswer", vars := ["loop.example/pub-g01449/impl.classes"], fn := fun _ => fun
  | [d1, d2, d3, d4, d5, g1] => { results := [.lit (.bool true)], args := [d1, d2, d3, d4, d5], vars := [g1] }
  | _ => none }
def fnLinesAnswerRow : OpenClaim := { program := "ytjahmnenfknjgaagreatdoor", sum := "7d4f3e3cd508d5c3cf3adda905f821b64f4c41198d3966ee0f34eb171455d948", func := "loop.example/pub-g01449/laws.FnLinesAnswer", spec := "fnLinesAnswer", unfollowed := true, recurses := true, named := ["loop.example/pub-g01449/impl.classes"], apart := false, laid := [("loop.example/pub-g01449/impl.classes", laid_loop_example_pub_g01449_impl_classes)] }
def FnLinesAnswerSaid : Prop := fnLinesAnswerRow.holds Tryz.pinned (OpenSpec.ofChange fnLinesAnswerSpec)

/-- ITS FALSE NEIGHBOUR: 'it returns false'. Refute it at one input. -/
def fnLinesAnswerWrong : ChangeSpec := { name := "fnLinesAnswer", vars := ["loop.example/pub-g01449/impl.classes"], fn := fun _ => fun
  | [d1, d2, d3, d4, d5, g1] => { results := [.lit (.bool false)], args := [d1, d2, d3, d4, d5], vars := [g1] }
  | _ => none }
def FnLinesAnswerWrongFalsely : Prop := fnLinesAnswerRow.holds Tryz.pinned (OpenSpec.ofChange fnLinesAnswerWrong)

/- THE SECOND FORM. 'bulk': how many values and letters a reading holds, each counted each time it is reached (what is shared counts as often as it is met; a slice's spare places count too). A statement '..UptoSaid' is the law's where the arguments, and the package variables that the reading takes, are together of bulk at most 1048576: NARROWER than '..Said'. Prove '..Said' where nothing that the law and all that it calls make is longer than what came in: it says more and counts as full. Else prove '..UptoSaid'. A law counts once. -/
mutual
def uptoBulk {H : Type} : DataW H → Nat
  | .lit (.string bytes) => bytes.length + 1
  | .lit _ => 1
  | .nil => 1
  | .ptr d => uptoBulk d + 1
  | .slice elems spare => uptoBulkAll elems + uptoBulkAll spare + 1
  | .agg parts => uptoBulkAll parts + 1
  | .iface _ d => uptoBulk d + 1
  | .map entries => uptoBulkEntries entries + 1
  | .held _ => 1
def uptoBulkAll {H : Type} : List (DataW H) → Nat
  | [] => 0
  | d :: r => uptoBulk d + uptoBulkAll r
def uptoBulkEntries {H : Type} : List (Lit × DataW H) → Nat
  | [] => 0
  | x :: r => uptoBulkEntry x + uptoBulkEntries r
def uptoBulkEntry {H : Type} : Lit × DataW H → Nat
  | (.string bytes, d) => bytes.length + uptoBulk d + 1
  | (_, d) => uptoBulk d + 1
 end
def uptoSmall : (H : Type) → List (DataW H) → Bool := fun _ ds => decide (uptoBulkAll ds ≤ 1048576)
def OpenSpec.upto (s : _root_.Go.ChangeSpec) : _root_.Go.OpenSpec := { _root_.Go.OpenSpec.ofChange s with cond := some uptoSmall }

/-- 'laws.FnResolveAnswer', WHERE WHAT IT READS IS OF BULK AT MOST 1048576: true; the input reads as it did. -/
def fnResolveAnswerUptoRow : OpenClaim := { program := "ytjahmnenfknjgaagreatdoor", sum := "7d4f3e3cd508d5c3cf3adda905f821b64f4c41198d3966ee0f34eb171455d948", func := "loop.example/pub-g01449/laws.FnResolveAnswer", spec := "fnResolveAnswer", unfollowed := true, recurses := true, named := ["loop.example/pub-g01449/impl.classes"], apart := false, laid := [("loop.example/pub-g01449/impl.classes", laid_loop_example_pub_g01449_impl_classes)], narrowed := true }
def FnResolveAnswerUptoSaid : Prop := fnResolveAnswerUptoRow.holds Tryz.pinned (OpenSpec.upto fnResolveAnswerSpec)

/-- 'laws.FnRulesJoin', WHERE WHAT IT READS IS OF BULK AT MOST 1048576: true; the input reads as it did. -/
def fnRulesJoinUptoRow : OpenClaim := { program := "ytjahmnenfknjgaagreatdoor", sum := "7d4f3e3cd508d5c3cf3adda905f821b64f4c41198d3966ee0f34eb171455d948", func := "loop.example/pub-g01449/laws.FnRulesJoin", spec := "fnRulesJoin", unfollowed := true, recurses := true, named := ["loop.example/pub-g01449/impl.classes"], apart := false, laid := [("loop.example/pub-g01449/impl.classes", laid_loop_example_pub_g01449_impl_classes)], narrowed := true }
def FnRulesJoinUptoSaid : Prop := fnRulesJoinUptoRow.holds Tryz.pinned (OpenSpec.upto fnRulesJoinSpec)

/-- 'laws.FnLinesAnswer', WHERE WHAT IT READS IS OF BULK AT MOST 1048576: true; the input reads as it did. -/
def fnLinesAnswerUptoRow : OpenClaim := { program := "ytjahmnenfknjgaagreatdoor", sum := "7d4f3e3cd508d5c3cf3adda905f821b64f4c41198d3966ee0f34eb171455d948", func := "loop.example/pub-g01449/laws.FnLinesAnswer", spec := "fnLinesAnswer", unfollowed := true, recurses := true, named := ["loop.example/pub-g01449/impl.classes"], apart := false, laid := [("loop.example/pub-g01449/impl.classes", laid_loop_example_pub_g01449_impl_classes)], narrowed := true }
def FnLinesAnswerUptoSaid : Prop := fnLinesAnswerUptoRow.holds Tryz.pinned (OpenSpec.upto fnLinesAnswerSpec)

end Rows
end Go.Proofs.YtjahmnenfknjgaaGreatDoor

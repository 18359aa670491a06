/-
  No cell of these rows narrows 'for every input' (looked for: loops, veiled, ifaces, maps, wideKeys, modest, calm, conditions, laid).
  DERIVED. THE GIVEN ROWS OF THIS SEAT. 7 by the template 'for every input the law returns true; each argument reads behind the call as it read before'; 0 by the template 'total and deterministic' (their statements: YtlggpodblabmdaaTotals.lean).
  GIVEN WITH THE SEED: the statements are not yours to turn. If you find one false, say at which input.
  Laid BY PROGRAM, IN A SANDBOX (cutbox-rows.mjs): the forced cells as the released guide's own fill.sh prints them over the translation a2a989649438547f… (all of the seat's roots in one cut). By AI agents, Wed Nov 11 2026. No macro, syntax, notation, axiom, sorry.
-/
import Derived.Test.YtlggpodblabmdaaChecked
import GoSem.Claim
import GoSem.ClaimJoined
import GoSem.ClaimMapViews
import Derived.JoinedTies
import Derived.KernelRfl
namespace Go.Proofs.Ytlggpodblabmdaa
/- THE CELL 'sum', in the pinned program and in every row, IS THE sha256 OF THE DUMP (.gsa) THAT YtlggpodblabmdaaProg.lean LOADS. Nothing in Lean hashes anything: it is a label: what it is worth is what the hold of that sum in a sandbox is worth. -/
noncomputable def Try.pinned : Pinned := { name := "ytlggpodblabmdaa", sum := "a2a989649438547f24914dfacd6b4a15c1d3cca590dae71c44ad620db8c7a6d7", checked := Try.checked }
namespace Rows
def none {H : Type} : Left H := { results := [], args := [] }

/-- 'laws.FnAppended': WHATEVER THE INPUT: true; the input reads as it did. -/
def fnAppendedSpec : ChangeSpec := { name := "fnAppended", fn := fun _ => fun
  | [d] => { results := [.lit (.bool true)], args := [d] }
  | _ => none }
def fnAppendedRow : OpenClaim := { program := "ytlggpodblabmdaa", sum := "a2a989649438547f24914dfacd6b4a15c1d3cca590dae71c44ad620db8c7a6d7", func := "treelatch/laws.FnAppended", spec := "fnAppended", unfollowed := true, recurses := true, apart := false }
def FnAppendedSaid : Prop := fnAppendedRow.holds Try.pinned (OpenSpec.ofChange fnAppendedSpec)

/-- ITS FALSE NEIGHBOUR: 'it returns false'. Refute it at one input. -/
def fnAppendedWrong : ChangeSpec := { name := "fnAppended", fn := fun _ => fun
  | [d] => { results := [.lit (.bool false)], args := [d] }
  | _ => none }
def FnAppendedWrongFalsely : Prop := fnAppendedRow.holds Try.pinned (OpenSpec.ofChange fnAppendedWrong)

/-- 'laws.FnChanged': WHATEVER THE INPUT: true; the input reads as it did. -/
def fnChangedSpec : ChangeSpec := { name := "fnChanged", fn := fun _ => fun
  | [d1, d2] => { results := [.lit (.bool true)], args := [d1, d2] }
  | _ => none }
def fnChangedRow : OpenClaim := { program := "ytlggpodblabmdaa", sum := "a2a989649438547f24914dfacd6b4a15c1d3cca590dae71c44ad620db8c7a6d7", func := "treelatch/laws.FnChanged", spec := "fnChanged", unfollowed := true, recurses := true, apart := false }
def FnChangedSaid : Prop := fnChangedRow.holds Try.pinned (OpenSpec.ofChange fnChangedSpec)

/-- ITS FALSE NEIGHBOUR: 'it returns false'. Refute it at one input. -/
def fnChangedWrong : ChangeSpec := { name := "fnChanged", fn := fun _ => fun
  | [d1, d2] => { results := [.lit (.bool false)], args := [d1, d2] }
  | _ => none }
def FnChangedWrongFalsely : Prop := fnChangedRow.holds Try.pinned (OpenSpec.ofChange fnChangedWrong)

/-- 'laws.FnChangedMoved': WHATEVER THE INPUT: true; the input reads as it did. -/
def fnChangedMovedSpec : ChangeSpec := { name := "fnChangedMoved", fn := fun _ => fun
  | [d1, d2] => { results := [.lit (.bool true)], args := [d1, d2] }
  | _ => none }
def fnChangedMovedRow : OpenClaim := { program := "ytlggpodblabmdaa", sum := "a2a989649438547f24914dfacd6b4a15c1d3cca590dae71c44ad620db8c7a6d7", func := "treelatch/laws.FnChangedMoved", spec := "fnChangedMoved", unfollowed := true, recurses := true, apart := false }
def FnChangedMovedSaid : Prop := fnChangedMovedRow.holds Try.pinned (OpenSpec.ofChange fnChangedMovedSpec)

/-- ITS FALSE NEIGHBOUR: 'it returns false'. Refute it at one input. -/
def fnChangedMovedWrong : ChangeSpec := { name := "fnChangedMoved", fn := fun _ => fun
  | [d1, d2] => { results := [.lit (.bool false)], args := [d1, d2] }
  | _ => none }
def FnChangedMovedWrongFalsely : Prop := fnChangedMovedRow.holds Try.pinned (OpenSpec.ofChange fnChangedMovedWrong)

/-- 'laws.FnUndone': WHATEVER THE INPUT: true; the input reads as it did. -/
def fnUndoneSpec : ChangeSpec := { name := "fnUndone", fn := fun _ => fun
  | [d1, d2, d3, d4, d5] => { results := [.lit (.bool true)], args := [d1, d2, d3, d4, d5] }
  | _ => none }
def fnUndoneRow : OpenClaim := { program := "ytlggpodblabmdaa", sum := "a2a989649438547f24914dfacd6b4a15c1d3cca590dae71c44ad620db8c7a6d7", func := "treelatch/laws.FnUndone", spec := "fnUndone", unfollowed := true, recurses := true, apart := false }
def FnUndoneSaid : Prop := fnUndoneRow.holds Try.pinned (OpenSpec.ofChange fnUndoneSpec)

/-- ITS FALSE NEIGHBOUR: 'it returns false'. Refute it at one input. -/
def fnUndoneWrong : ChangeSpec := { name := "fnUndone", fn := fun _ => fun
  | [d1, d2, d3, d4, d5] => { results := [.lit (.bool false)], args := [d1, d2, d3, d4, d5] }
  | _ => none }
def FnUndoneWrongFalsely : Prop := fnUndoneRow.holds Try.pinned (OpenSpec.ofChange fnUndoneWrong)

/-- 'laws.FnSorted': WHATEVER THE INPUT: true; the input reads as it did. -/
def fnSortedSpec : ChangeSpec := { name := "fnSorted", fn := fun _ => fun
  | [d1, d2, d3, d4] => { results := [.lit (.bool true)], args := [d1, d2, d3, d4] }
  | _ => none }
def fnSortedRow : OpenClaim := { program := "ytlggpodblabmdaa", sum := "a2a989649438547f24914dfacd6b4a15c1d3cca590dae71c44ad620db8c7a6d7", func := "treelatch/laws.FnSorted", spec := "fnSorted", unfollowed := true, recurses := true, apart := false }
def FnSortedSaid : Prop := fnSortedRow.holds Try.pinned (OpenSpec.ofChange fnSortedSpec)

/-- ITS FALSE NEIGHBOUR: 'it returns false'. Refute it at one input. -/
def fnSortedWrong : ChangeSpec := { name := "fnSorted", fn := fun _ => fun
  | [d1, d2, d3, d4] => { results := [.lit (.bool false)], args := [d1, d2, d3, d4] }
  | _ => none }
def FnSortedWrongFalsely : Prop := fnSortedRow.holds Try.pinned (OpenSpec.ofChange fnSortedWrong)

/-- 'laws.FnWalk': WHATEVER THE INPUT: true; the input reads as it did. -/
def fnWalkSpec : ChangeSpec := { name := "fnWalk", fn := fun _ => fun
  | [d1, d2, d3] => { results := [.lit (.bool true)], args := [d1, d2, d3] }
  | _ => none }
def fnWalkRow : OpenClaim := { program := "ytlggpodblabmdaa", sum := "a2a989649438547f24914dfacd6b4a15c1d3cca590dae71c44ad620db8c7a6d7", func := "treelatch/laws.FnWalk", spec := "fnWalk", unfollowed := true, recurses := true, apart := false }
def FnWalkSaid : Prop := fnWalkRow.holds Try.pinned (OpenSpec.ofChange fnWalkSpec)

/-- ITS FALSE NEIGHBOUR: 'it returns false'. Refute it at one input. -/
def fnWalkWrong : ChangeSpec := { name := "fnWalk", fn := fun _ => fun
  | [d1, d2, d3] => { results := [.lit (.bool false)], args := [d1, d2, d3] }
  | _ => none }
def FnWalkWrongFalsely : Prop := fnWalkRow.holds Try.pinned (OpenSpec.ofChange fnWalkWrong)

/-- 'laws.FnWalkAnswers': WHATEVER THE INPUT: true; the input reads as it did. -/
def fnWalkAnswersSpec : ChangeSpec := { name := "fnWalkAnswers", fn := fun _ => fun
  | [d1, d2, d3, d4] => { results := [.lit (.bool true)], args := [d1, d2, d3, d4] }
  | _ => none }
def fnWalkAnswersRow : OpenClaim := { program := "ytlggpodblabmdaa", sum := "a2a989649438547f24914dfacd6b4a15c1d3cca590dae71c44ad620db8c7a6d7", func := "treelatch/laws.FnWalkAnswers", spec := "fnWalkAnswers", unfollowed := true, recurses := true, apart := false }
def FnWalkAnswersSaid : Prop := fnWalkAnswersRow.holds Try.pinned (OpenSpec.ofChange fnWalkAnswersSpec)

/-- ITS FALSE NEIGHBOUR: 'it returns false'. Refute it at one input. -/
def fnWalkAnswersWrong : ChangeSpec := { name := "fnWalkAnswers", fn := fun _ => fun
  | [d1, d2, d3, d4] => { results := [.lit (.bool false)], args := [d1, d2, d3, d4] }
  | _ => none }
def FnWalkAnswersWrongFalsely : Prop := fnWalkAnswersRow.holds Try.pinned (OpenSpec.ofChange fnWalkAnswersWrong)

/- THE SECOND FORM. 'bulk': how many values and letters a reading holds, each counted each time it is reached (what is shared counts as often as it is met; a slice's spare places count too). A statement '..UptoSaid' is the law's where the arguments, and the package variables that the reading takes, are together of bulk at most 1048576: NARROWER than '..Said'. Prove '..Said' where nothing that the law and all that it calls make is longer than what came in: it says more and counts as full. Else prove '..UptoSaid'. A law counts once. -/
mutual
def uptoBulk {H : Type} : DataW H → Nat
  | .lit (.string bytes) => bytes.length + 1
  | .lit _ => 1
  | .nil => 1
  | .ptr d => uptoBulk d + 1
  | .slice elems spare => uptoBulkAll elems + uptoBulkAll spare + 1
  | .agg parts => uptoBulkAll parts + 1
  | .iface _ d => uptoBulk d + 1
  | .map entries => uptoBulkEntries entries + 1
  | .held _ => 1
def uptoBulkAll {H : Type} : List (DataW H) → Nat
  | [] => 0
  | d :: r => uptoBulk d + uptoBulkAll r
def uptoBulkEntries {H : Type} : List (Lit × DataW H) → Nat
  | [] => 0
  | x :: r => uptoBulkEntry x + uptoBulkEntries r
def uptoBulkEntry {H : Type} : Lit × DataW H → Nat
  | (.string bytes, d) => bytes.length + uptoBulk d + 1
  | (_, d) => uptoBulk d + 1
 end
def uptoSmall : (H : Type) → List (DataW H) → Bool := fun _ ds => decide (uptoBulkAll ds ≤ 1048576)
def OpenSpec.upto (s : _root_.Go.ChangeSpec) : _root_.Go.OpenSpec := { _root_.Go.OpenSpec.ofChange s with cond := some uptoSmall }

/-- 'laws.FnAppended', WHERE WHAT IT READS IS OF BULK AT MOST 1048576: true; the input reads as it did. -/
def fnAppendedUptoRow : OpenClaim := { program := "ytlggpodblabmdaa", sum := "a2a989649438547f24914dfacd6b4a15c1d3cca590dae71c44ad620db8c7a6d7", func := "treelatch/laws.FnAppended", spec := "fnAppended", unfollowed := true, recurses := true, apart := false, narrowed := true }
def FnAppendedUptoSaid : Prop := fnAppendedUptoRow.holds Try.pinned (OpenSpec.upto fnAppendedSpec)

/-- 'laws.FnChanged', WHERE WHAT IT READS IS OF BULK AT MOST 1048576: true; the input reads as it did. -/
def fnChangedUptoRow : OpenClaim := { program := "ytlggpodblabmdaa", sum := "a2a989649438547f24914dfacd6b4a15c1d3cca590dae71c44ad620db8c7a6d7", func := "treelatch/laws.FnChanged", spec := "fnChanged", unfollowed := true, recurses := true, apart := false, narrowed := true }
def FnChangedUptoSaid : Prop := fnChangedUptoRow.holds Try.pinned (OpenSpec.upto fnChangedSpec)

/-- 'laws.FnChangedMoved', WHERE WHAT IT READS IS OF BULK AT MOST 1048576: true; the input reads as it did. -/
def fnChangedMovedUptoRow : OpenClaim := { program := "ytlggpodblabmdaa", sum := "a2a989649438547f24914dfacd6b4a15c1d3cca590dae71c44ad620db8c7a6d7", func := "treelatch/laws.FnChangedMoved", spec := "fnChangedMoved", unfollowed := true, recurses := true, apart := false, narrowed := true }
def FnChangedMovedUptoSaid : Prop := fnChangedMovedUptoRow.holds Try.pinned (OpenSpec.upto fnChangedMovedSpec)

/-- 'laws.FnUndone', WHERE WHAT IT READS IS OF BULK AT MOST 1048576: true; the input reads as it did. -/
def fnUndoneUptoRow : OpenClaim := { program := "ytlggpodblabmdaa", sum := "a2a989649438547f24914dfacd6b4a15c1d3cca590dae71c44ad620db8c7a6d7", func := "treelatch/laws.FnUndone", spec := "fnUndone", unfollowed := true, recurses := true, apart := false, narrowed := true }
def FnUndoneUptoSaid : Prop := fnUndoneUptoRow.holds Try.pinned (OpenSpec.upto fnUndoneSpec)

/-- 'laws.FnSorted', WHERE WHAT IT READS IS OF BULK AT MOST 1048576: true; the input reads as it did. -/
def fnSortedUptoRow : OpenClaim := { program := "ytlggpodblabmdaa", sum := "a2a989649438547f24914dfacd6b4a15c1d3cca590dae71c44ad620db8c7a6d7", func := "treelatch/laws.FnSorted", spec := "fnSorted", unfollowed := true, recurses := true, apart := false, narrowed := true }
def FnSortedUptoSaid : Prop := fnSortedUptoRow.holds Try.pinned (OpenSpec.upto fnSortedSpec)

/-- 'laws.FnWalk', WHERE WHAT IT READS IS OF BULK AT MOST 1048576: true; the input reads as it did. -/
def fnWalkUptoRow : OpenClaim := { program := "ytlggpodblabmdaa", sum := "a2a989649438547f24914dfacd6b4a15c1d3cca590dae71c44ad620db8c7a6d7", func := "treelatch/laws.FnWalk", spec := "fnWalk", unfollowed := true, recurses := true, apart := false, narrowed := true }
def FnWalkUptoSaid : Prop := fnWalkUptoRow.holds Try.pinned (OpenSpec.upto fnWalkSpec)

/-- 'laws.FnWalkAnswers', WHERE WHAT IT READS IS OF BULK AT MOST 1048576: true; the input reads as it did. -/
def fnWalkAnswersUptoRow : OpenClaim := { program := "ytlggpodblabmdaa", sum := "a2a989649438547f24914dfacd6b4a15c1d3cca590dae71c44ad620db8c7a6d7", func := "treelatch/laws.FnWalkAnswers", spec := "fnWalkAnswers", unfollowed := true, recurses := true, apart := false, narrowed := true }
def FnWalkAnswersUptoSaid : Prop := fnWalkAnswersUptoRow.holds Try.pinned (OpenSpec.upto fnWalkAnswersSpec)

end Rows
end Go.Proofs.Ytlggpodblabmdaa

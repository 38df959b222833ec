/-
  No cell of these rows narrows 'for every input' (looked for: loops, veiled, ifaces, maps, wideKeys, modest, calm, conditions, laid).
  DERIVED. THE GIVEN ROWS OF THIS SEAT. 6 by the template 'for every input the law returns true; each argument reads behind the call as it read before'; 0 by the template 'total and deterministic' (their statements: Qxb6609021aTotals.lean).
  GIVEN WITH THE SEED: the statements are not yours to turn. If you find one false, say at which input.
  Laid BY PROGRAM, IN A SANDBOX (cutbox-rows.mjs): the forced cells as the released guide's own fill.sh prints them over the translation b55c5f359c3f52b1… (all of the seat's roots in one cut). By AI agents, Wed Nov 11 2026. No macro, syntax, notation, axiom, sorry.
-/
import Derived.Test.Qxb6609021aChecked
import GoSem.Claim
import GoSem.ClaimJoined
import GoSem.ClaimMapViews
import Derived.JoinedTies
import Derived.KernelRfl
namespace Go.Proofs.Qxb6609021a
/- THE CELL 'sum', in the pinned program and in every row, IS THE sha256 OF THE DUMP (.gsa) THAT Qxb6609021aProg.lean LOADS. Nothing in Lean hashes anything: it is a label: what it is worth is what the hold of that sum in a sandbox is worth. -/
noncomputable def Try.pinned : Pinned := { name := "qxb6609021a", sum := "b55c5f359c3f52b11f1c75713c828070487ba16de6ddafd6451eb52f282bcb7b", checked := Try.checked }
namespace Rows
def none {H : Type} : Left H := { results := [], args := [] }

/-- 'zzlaws_internal_diff_b1.FnSplitLinesCutAndShape': WHATEVER THE INPUT: true; the input reads as it did. -/
def fnSplitLinesCutAndShapeSpec : ChangeSpec := { name := "fnSplitLinesCutAndShape", fn := fun _ => fun
  | [d1, d2] => { results := [.lit (.bool true)], args := [d1, d2] }
  | _ => none }
def fnSplitLinesCutAndShapeRow : OpenClaim := { program := "qxb6609021a", sum := "b55c5f359c3f52b11f1c75713c828070487ba16de6ddafd6451eb52f282bcb7b", func := "example.com/restitch/restitch/zzlaws_internal_diff_b1.FnSplitLinesCutAndShape", spec := "fnSplitLinesCutAndShape", inPlace := ["internal/bytealg.IndexByte"], apart := false }
def FnSplitLinesCutAndShapeSaid : Prop := fnSplitLinesCutAndShapeRow.holds Try.pinned (OpenSpec.ofChange fnSplitLinesCutAndShapeSpec)

/-- ITS FALSE NEIGHBOUR: 'it returns false'. Refute it at one input. -/
def fnSplitLinesCutAndShapeWrong : ChangeSpec := { name := "fnSplitLinesCutAndShape", fn := fun _ => fun
  | [d1, d2] => { results := [.lit (.bool false)], args := [d1, d2] }
  | _ => none }
def FnSplitLinesCutAndShapeWrongFalsely : Prop := fnSplitLinesCutAndShapeRow.holds Try.pinned (OpenSpec.ofChange fnSplitLinesCutAndShapeWrong)

/-- 'zzlaws_internal_diff_b1.FnSplitLinesNewlinePutIn': WHATEVER THE INPUT: true; the input reads as it did. -/
def fnSplitLinesNewlinePutInSpec : ChangeSpec := { name := "fnSplitLinesNewlinePutIn", fn := fun _ => fun
  | [d1, d2] => { results := [.lit (.bool true)], args := [d1, d2] }
  | _ => none }
def fnSplitLinesNewlinePutInRow : OpenClaim := { program := "qxb6609021a", sum := "b55c5f359c3f52b11f1c75713c828070487ba16de6ddafd6451eb52f282bcb7b", func := "example.com/restitch/restitch/zzlaws_internal_diff_b1.FnSplitLinesNewlinePutIn", spec := "fnSplitLinesNewlinePutIn", inPlace := ["internal/bytealg.IndexByte"], apart := false }
def FnSplitLinesNewlinePutInSaid : Prop := fnSplitLinesNewlinePutInRow.holds Try.pinned (OpenSpec.ofChange fnSplitLinesNewlinePutInSpec)

/-- ITS FALSE NEIGHBOUR: 'it returns false'. Refute it at one input. -/
def fnSplitLinesNewlinePutInWrong : ChangeSpec := { name := "fnSplitLinesNewlinePutIn", fn := fun _ => fun
  | [d1, d2] => { results := [.lit (.bool false)], args := [d1, d2] }
  | _ => none }
def FnSplitLinesNewlinePutInWrongFalsely : Prop := fnSplitLinesNewlinePutInRow.holds Try.pinned (OpenSpec.ofChange fnSplitLinesNewlinePutInWrong)

/-- 'zzlaws_internal_diff_b1.FnScriptIsShortestEditScript': WHATEVER THE INPUT: true; the input reads as it did. -/
def fnScriptIsShortestEditScriptSpec : ChangeSpec := { name := "fnScriptIsShortestEditScript", fn := fun _ => fun
  | [d1, d2] => { results := [.lit (.bool true)], args := [d1, d2] }
  | _ => none }
def fnScriptIsShortestEditScriptRow : OpenClaim := { program := "qxb6609021a", sum := "b55c5f359c3f52b11f1c75713c828070487ba16de6ddafd6451eb52f282bcb7b", func := "example.com/restitch/restitch/zzlaws_internal_diff_b1.FnScriptIsShortestEditScript", spec := "fnScriptIsShortestEditScript", unfollowed := true, recurses := true, apart := false }
def FnScriptIsShortestEditScriptSaid : Prop := fnScriptIsShortestEditScriptRow.holds Try.pinned (OpenSpec.ofChange fnScriptIsShortestEditScriptSpec)

/-- ITS FALSE NEIGHBOUR: 'it returns false'. Refute it at one input. -/
def fnScriptIsShortestEditScriptWrong : ChangeSpec := { name := "fnScriptIsShortestEditScript", fn := fun _ => fun
  | [d1, d2] => { results := [.lit (.bool false)], args := [d1, d2] }
  | _ => none }
def FnScriptIsShortestEditScriptWrongFalsely : Prop := fnScriptIsShortestEditScriptRow.holds Try.pinned (OpenSpec.ofChange fnScriptIsShortestEditScriptWrong)

/-- 'zzlaws_internal_diff_b1.FnScriptOneLinePutIn': WHATEVER THE INPUT: true; the input reads as it did. -/
def fnScriptOneLinePutInSpec : ChangeSpec := { name := "fnScriptOneLinePutIn", fn := fun _ => fun
  | [d1, d2, d3] => { results := [.lit (.bool true)], args := [d1, d2, d3] }
  | _ => none }
def fnScriptOneLinePutInRow : OpenClaim := { program := "qxb6609021a", sum := "b55c5f359c3f52b11f1c75713c828070487ba16de6ddafd6451eb52f282bcb7b", func := "example.com/restitch/restitch/zzlaws_internal_diff_b1.FnScriptOneLinePutIn", spec := "fnScriptOneLinePutIn", unfollowed := true, recurses := true, apart := false }
def FnScriptOneLinePutInSaid : Prop := fnScriptOneLinePutInRow.holds Try.pinned (OpenSpec.ofChange fnScriptOneLinePutInSpec)

/-- ITS FALSE NEIGHBOUR: 'it returns false'. Refute it at one input. -/
def fnScriptOneLinePutInWrong : ChangeSpec := { name := "fnScriptOneLinePutIn", fn := fun _ => fun
  | [d1, d2, d3] => { results := [.lit (.bool false)], args := [d1, d2, d3] }
  | _ => none }
def FnScriptOneLinePutInWrongFalsely : Prop := fnScriptOneLinePutInRow.holds Try.pinned (OpenSpec.ofChange fnScriptOneLinePutInWrong)

/-- 'zzlaws_internal_diff_b1.FnAdvanceStepThenFullSnake': WHATEVER THE INPUT: true; the input reads as it did. -/
def fnAdvanceStepThenFullSnakeSpec : ChangeSpec := { name := "fnAdvanceStepThenFullSnake", fn := fun _ => fun
  | [d1, d2, d3, d4, d5, d6, d7] => { results := [.lit (.bool true)], args := [d1, d2, d3, d4, d5, d6, d7] }
  | _ => none }
def fnAdvanceStepThenFullSnakeRow : OpenClaim := { program := "qxb6609021a", sum := "b55c5f359c3f52b11f1c75713c828070487ba16de6ddafd6451eb52f282bcb7b", func := "example.com/restitch/restitch/zzlaws_internal_diff_b1.FnAdvanceStepThenFullSnake", spec := "fnAdvanceStepThenFullSnake", unfollowed := true, recurses := true, apart := false }
def FnAdvanceStepThenFullSnakeSaid : Prop := fnAdvanceStepThenFullSnakeRow.holds Try.pinned (OpenSpec.ofChange fnAdvanceStepThenFullSnakeSpec)

/-- ITS FALSE NEIGHBOUR: 'it returns false'. Refute it at one input. -/
def fnAdvanceStepThenFullSnakeWrong : ChangeSpec := { name := "fnAdvanceStepThenFullSnake", fn := fun _ => fun
  | [d1, d2, d3, d4, d5, d6, d7] => { results := [.lit (.bool false)], args := [d1, d2, d3, d4, d5, d6, d7] }
  | _ => none }
def FnAdvanceStepThenFullSnakeWrongFalsely : Prop := fnAdvanceStepThenFullSnakeRow.holds Try.pinned (OpenSpec.ofChange fnAdvanceStepThenFullSnakeWrong)

/-- 'zzlaws_internal_diff_b1.FnAdvanceMirrorsUnderSwap': WHATEVER THE INPUT: true; the input reads as it did. -/
def fnAdvanceMirrorsUnderSwapSpec : ChangeSpec := { name := "fnAdvanceMirrorsUnderSwap", fn := fun _ => fun
  | [d1, d2, d3, d4, d5, d6, d7] => { results := [.lit (.bool true)], args := [d1, d2, d3, d4, d5, d6, d7] }
  | _ => none }
def fnAdvanceMirrorsUnderSwapRow : OpenClaim := { program := "qxb6609021a", sum := "b55c5f359c3f52b11f1c75713c828070487ba16de6ddafd6451eb52f282bcb7b", func := "example.com/restitch/restitch/zzlaws_internal_diff_b1.FnAdvanceMirrorsUnderSwap", spec := "fnAdvanceMirrorsUnderSwap", unfollowed := true, recurses := true, apart := false }
def FnAdvanceMirrorsUnderSwapSaid : Prop := fnAdvanceMirrorsUnderSwapRow.holds Try.pinned (OpenSpec.ofChange fnAdvanceMirrorsUnderSwapSpec)

/-- ITS FALSE NEIGHBOUR: 'it returns false'. Refute it at one input. -/
def fnAdvanceMirrorsUnderSwapWrong : ChangeSpec := { name := "fnAdvanceMirrorsUnderSwap", fn := fun _ => fun
  | [d1, d2, d3, d4, d5, d6, d7] => { results := [.lit (.bool false)], args := [d1, d2, d3, d4, d5, d6, d7] }
  | _ => none }
def FnAdvanceMirrorsUnderSwapWrongFalsely : Prop := fnAdvanceMirrorsUnderSwapRow.holds Try.pinned (OpenSpec.ofChange fnAdvanceMirrorsUnderSwapWrong)

end Rows
end Go.Proofs.Qxb6609021a

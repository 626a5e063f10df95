/-
  No cell of these rows narrows 'for every input' (looked for: loops, veiled, ifaces, maps, wideKeys, modest, calm, conditions, laid).
  DERIVED. THE GIVEN ROWS OF THIS SEAT. 3 by the template 'for every input the law returns true; each argument reads behind the call as it read before'; 0 by the template 'total and deterministic' (their statements: Qxb6618167aTotals.lean).
  GIVEN WITH THE SEED: the statements are not yours to turn. If you find one false, say at which input.
  Laid BY PROGRAM, IN A SANDBOX (cutbox-rows.mjs): the forced cells as the released guide's own fill.sh prints them over the translation 9c4007b2ff407382… (all of the seat's roots in one cut). By AI agents, Wed Nov 11 2026. No macro, syntax, notation, axiom, sorry.
-/
import Derived.Test.Qxb6618167aChecked
import GoSem.Claim
import GoSem.ClaimJoined
import GoSem.ClaimMapViews
import Derived.JoinedTies
import Derived.KernelRfl
namespace Go.Proofs.Qxb6618167a
/- THE CELL 'sum', in the pinned program and in every row, IS THE sha256 OF THE DUMP (.gsa) THAT Qxb6618167aProg.lean LOADS. Nothing in Lean hashes anything: it is a label: what it is worth is what the hold of that sum in a sandbox is worth. -/
noncomputable def Try.pinned : Pinned := { name := "qxb6618167a", sum := "9c4007b2ff4073829ad699ce3594d1c030871cc9f7f8336de7ad9b74084313ee", checked := Try.checked }
namespace Rows
def none {H : Type} : Left H := { results := [], args := [] }

/-- 'zzlaws_internal_history_b1.FnSettlingJudgesEachOpAsItsHistoryAllows': WHATEVER THE INPUT: true; the input reads as it did. -/
def fnSettlingJudgesEachOpAsItsHistoryAllowsSpec : ChangeSpec := { name := "fnSettlingJudgesEachOpAsItsHistoryAllows", fn := fun _ => fun
  | [d] => { results := [.lit (.bool true)], args := [d] }
  | _ => none }
def fnSettlingJudgesEachOpAsItsHistoryAllowsRow : OpenClaim := { program := "qxb6618167a", sum := "9c4007b2ff4073829ad699ce3594d1c030871cc9f7f8336de7ad9b74084313ee", func := "example.com/quorumlog/quorumlog/zzlaws_internal_history_b1.FnSettlingJudgesEachOpAsItsHistoryAllows", spec := "fnSettlingJudgesEachOpAsItsHistoryAllows", apart := false }
def FnSettlingJudgesEachOpAsItsHistoryAllowsSaid : Prop := fnSettlingJudgesEachOpAsItsHistoryAllowsRow.holds Try.pinned (OpenSpec.ofChange fnSettlingJudgesEachOpAsItsHistoryAllowsSpec)

/-- ITS FALSE NEIGHBOUR: 'it returns false'. Refute it at one input. -/
def fnSettlingJudgesEachOpAsItsHistoryAllowsWrong : ChangeSpec := { name := "fnSettlingJudgesEachOpAsItsHistoryAllows", fn := fun _ => fun
  | [d] => { results := [.lit (.bool false)], args := [d] }
  | _ => none }
def FnSettlingJudgesEachOpAsItsHistoryAllowsWrongFalsely : Prop := fnSettlingJudgesEachOpAsItsHistoryAllowsRow.holds Try.pinned (OpenSpec.ofChange fnSettlingJudgesEachOpAsItsHistoryAllowsWrong)

/-- 'zzlaws_internal_history_b1.FnNoteFindsEachUnansweredValueAtItsEarliestCall': WHATEVER THE INPUT: true; the input reads as it did. -/
def fnNoteFindsEachUnansweredValueAtItsEarliestCallSpec : ChangeSpec := { name := "fnNoteFindsEachUnansweredValueAtItsEarliestCall", fn := fun _ => fun
  | [d] => { results := [.lit (.bool true)], args := [d] }
  | _ => none }
def fnNoteFindsEachUnansweredValueAtItsEarliestCallRow : OpenClaim := { program := "qxb6618167a", sum := "9c4007b2ff4073829ad699ce3594d1c030871cc9f7f8336de7ad9b74084313ee", func := "example.com/quorumlog/quorumlog/zzlaws_internal_history_b1.FnNoteFindsEachUnansweredValueAtItsEarliestCall", spec := "fnNoteFindsEachUnansweredValueAtItsEarliestCall", apart := false }
def FnNoteFindsEachUnansweredValueAtItsEarliestCallSaid : Prop := fnNoteFindsEachUnansweredValueAtItsEarliestCallRow.holds Try.pinned (OpenSpec.ofChange fnNoteFindsEachUnansweredValueAtItsEarliestCallSpec)

/-- ITS FALSE NEIGHBOUR: 'it returns false'. Refute it at one input. -/
def fnNoteFindsEachUnansweredValueAtItsEarliestCallWrong : ChangeSpec := { name := "fnNoteFindsEachUnansweredValueAtItsEarliestCall", fn := fun _ => fun
  | [d] => { results := [.lit (.bool false)], args := [d] }
  | _ => none }
def FnNoteFindsEachUnansweredValueAtItsEarliestCallWrongFalsely : Prop := fnNoteFindsEachUnansweredValueAtItsEarliestCallRow.holds Try.pinned (OpenSpec.ofChange fnNoteFindsEachUnansweredValueAtItsEarliestCallWrong)

/-- 'zzlaws_internal_history_b1.FnGatherCountsAppendsAndKeepsTheFirstReturnedSighting': WHATEVER THE INPUT: true; the input reads as it did. -/
def fnGatherCountsAppendsAndKeepsTheFirstReturnedSightingSpec : ChangeSpec := { name := "fnGatherCountsAppendsAndKeepsTheFirstReturnedSighting", fn := fun _ => fun
  | [d] => { results := [.lit (.bool true)], args := [d] }
  | _ => none }
def fnGatherCountsAppendsAndKeepsTheFirstReturnedSightingRow : OpenClaim := { program := "qxb6618167a", sum := "9c4007b2ff4073829ad699ce3594d1c030871cc9f7f8336de7ad9b74084313ee", func := "example.com/quorumlog/quorumlog/zzlaws_internal_history_b1.FnGatherCountsAppendsAndKeepsTheFirstReturnedSighting", spec := "fnGatherCountsAppendsAndKeepsTheFirstReturnedSighting", apart := false }
def FnGatherCountsAppendsAndKeepsTheFirstReturnedSightingSaid : Prop := fnGatherCountsAppendsAndKeepsTheFirstReturnedSightingRow.holds Try.pinned (OpenSpec.ofChange fnGatherCountsAppendsAndKeepsTheFirstReturnedSightingSpec)

/-- ITS FALSE NEIGHBOUR: 'it returns false'. Refute it at one input. -/
def fnGatherCountsAppendsAndKeepsTheFirstReturnedSightingWrong : ChangeSpec := { name := "fnGatherCountsAppendsAndKeepsTheFirstReturnedSighting", fn := fun _ => fun
  | [d] => { results := [.lit (.bool false)], args := [d] }
  | _ => none }
def FnGatherCountsAppendsAndKeepsTheFirstReturnedSightingWrongFalsely : Prop := fnGatherCountsAppendsAndKeepsTheFirstReturnedSightingRow.holds Try.pinned (OpenSpec.ofChange fnGatherCountsAppendsAndKeepsTheFirstReturnedSightingWrong)

end Rows
end Go.Proofs.Qxb6618167a

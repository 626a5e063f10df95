/-
  No cell of these rows narrows 'for every input' (looked for: loops, veiled, ifaces, maps, wideKeys, modest, calm, conditions, laid).
  DERIVED. THE GIVEN ROWS OF THIS SEAT. 1 by the template 'for every input the law returns true; each argument reads behind the call as it read before'; 0 by the template 'total and deterministic' (their statements: Qxb6617566aTotals.lean).
  GIVEN WITH THE SEED: the statements are not yours to turn. If you find one false, say at which input.
  Laid BY PROGRAM, IN A SANDBOX (cutbox-rows.mjs): the forced cells as the released guide's own fill.sh prints them over the translation c37012e30e2635d7… (all of the seat's roots in one cut). By AI agents, Wed Nov 11 2026. No macro, syntax, notation, axiom, sorry.
-/
import Derived.Test.Qxb6617566aChecked
import GoSem.Claim
import GoSem.ClaimJoined
import GoSem.ClaimMapViews
import Derived.JoinedTies
import Derived.KernelRfl
namespace Go.Proofs.Qxb6617566a
/- THE CELL 'sum', in the pinned program and in every row, IS THE sha256 OF THE DUMP (.gsa) THAT Qxb6617566aProg.lean LOADS. Nothing in Lean hashes anything: it is a label: what it is worth is what the hold of that sum in a sandbox is worth. -/
noncomputable def Try.pinned : Pinned := { name := "qxb6617566a", sum := "c37012e30e2635d7e88337ebd14dc552b2dffc36d748fd10ce06d20c6e88d21b", checked := Try.checked }
namespace Rows
def none {H : Type} : Left H := { results := [], args := [] }

/-- 'zzlaws_pkg_ubootenv_b1.FnNewerDecidesEveryPairOnceAndNextCounterWins': WHATEVER THE INPUT: true; the input reads as it did. -/
def fnNewerDecidesEveryPairOnceAndNextCounterWinsSpec : ChangeSpec := { name := "fnNewerDecidesEveryPairOnceAndNextCounterWins", fn := fun _ => fun
  | [d1, d2] => { results := [.lit (.bool true)], args := [d1, d2] }
  | _ => none }
def fnNewerDecidesEveryPairOnceAndNextCounterWinsRow : OpenClaim := { program := "qxb6617566a", sum := "c37012e30e2635d7e88337ebd14dc552b2dffc36d748fd10ce06d20c6e88d21b", func := "example.com/twinrail/twinrail/zzlaws_pkg_ubootenv_b1.FnNewerDecidesEveryPairOnceAndNextCounterWins", spec := "fnNewerDecidesEveryPairOnceAndNextCounterWins", apart := false }
def FnNewerDecidesEveryPairOnceAndNextCounterWinsSaid : Prop := fnNewerDecidesEveryPairOnceAndNextCounterWinsRow.holds Try.pinned (OpenSpec.ofChange fnNewerDecidesEveryPairOnceAndNextCounterWinsSpec)

/-- ITS FALSE NEIGHBOUR: 'it returns false'. Refute it at one input. -/
def fnNewerDecidesEveryPairOnceAndNextCounterWinsWrong : ChangeSpec := { name := "fnNewerDecidesEveryPairOnceAndNextCounterWins", fn := fun _ => fun
  | [d1, d2] => { results := [.lit (.bool false)], args := [d1, d2] }
  | _ => none }
def FnNewerDecidesEveryPairOnceAndNextCounterWinsWrongFalsely : Prop := fnNewerDecidesEveryPairOnceAndNextCounterWinsRow.holds Try.pinned (OpenSpec.ofChange fnNewerDecidesEveryPairOnceAndNextCounterWinsWrong)

end Rows
end Go.Proofs.Qxb6617566a

/-
  No cell of these rows narrows 'for every input' (looked for: loops, veiled, ifaces, maps, wideKeys, modest, calm, conditions, laid).
  DERIVED. THE GIVEN ROWS OF THIS SEAT. 4 by the template 'for every input the law returns true; each argument reads behind the call as it read before'; 0 by the template 'total and deterministic' (their statements: Qxb6617273aTotals.lean).
  GIVEN WITH THE SEED: the statements are not yours to turn. If you find one false, say at which input.
  Laid BY PROGRAM, IN A SANDBOX (cutbox-rows.mjs): the forced cells as the released guide's own fill.sh prints them over the translation 8b66ecf8891ac28d… (all of the seat's roots in one cut). By AI agents, Wed Nov 11 2026. No macro, syntax, notation, axiom, sorry.
-/
import Derived.Test.Qxb6617273aChecked
import GoSem.Claim
import GoSem.ClaimJoined
import GoSem.ClaimMapViews
import Derived.JoinedTies
import Derived.KernelRfl
namespace Go.Proofs.Qxb6617273a
/- THE CELL 'sum', in the pinned program and in every row, IS THE sha256 OF THE DUMP (.gsa) THAT Qxb6617273aProg.lean LOADS. Nothing in Lean hashes anything: it is a label: what it is worth is what the hold of that sum in a sandbox is worth. -/
noncomputable def Try.pinned : Pinned := { name := "qxb6617273a", sum := "8b66ecf8891ac28d9f5d1895834cac7c551c715dfcc0e900ec58eebc713532a6", checked := Try.checked }
namespace Rows
def none {H : Type} : Left H := { results := [], args := [] }

/-- 'zzlaws_internal_repeat_b1.FnQuotedLenIsFirstUnescapedQuote': WHATEVER THE INPUT: true; the input reads as it did. -/
def fnQuotedLenIsFirstUnescapedQuoteSpec : ChangeSpec := { name := "fnQuotedLenIsFirstUnescapedQuote", fn := fun _ => fun
  | [d] => { results := [.lit (.bool true)], args := [d] }
  | _ => none }
def fnQuotedLenIsFirstUnescapedQuoteRow : OpenClaim := { program := "qxb6617273a", sum := "8b66ecf8891ac28d9f5d1895834cac7c551c715dfcc0e900ec58eebc713532a6", func := "example.com/reviewlore/reviewlore/zzlaws_internal_repeat_b1.FnQuotedLenIsFirstUnescapedQuote", spec := "fnQuotedLenIsFirstUnescapedQuote", apart := false }
def FnQuotedLenIsFirstUnescapedQuoteSaid : Prop := fnQuotedLenIsFirstUnescapedQuoteRow.holds Try.pinned (OpenSpec.ofChange fnQuotedLenIsFirstUnescapedQuoteSpec)

/-- ITS FALSE NEIGHBOUR: 'it returns false'. Refute it at one input. -/
def fnQuotedLenIsFirstUnescapedQuoteWrong : ChangeSpec := { name := "fnQuotedLenIsFirstUnescapedQuote", fn := fun _ => fun
  | [d] => { results := [.lit (.bool false)], args := [d] }
  | _ => none }
def FnQuotedLenIsFirstUnescapedQuoteWrongFalsely : Prop := fnQuotedLenIsFirstUnescapedQuoteRow.holds Try.pinned (OpenSpec.ofChange fnQuotedLenIsFirstUnescapedQuoteWrong)

/-- 'zzlaws_internal_repeat_b1.FnQuotedLenCutsAndTails': WHATEVER THE INPUT: true; the input reads as it did. -/
def fnQuotedLenCutsAndTailsSpec : ChangeSpec := { name := "fnQuotedLenCutsAndTails", fn := fun _ => fun
  | [d1, d2, d3] => { results := [.lit (.bool true)], args := [d1, d2, d3] }
  | _ => none }
def fnQuotedLenCutsAndTailsRow : OpenClaim := { program := "qxb6617273a", sum := "8b66ecf8891ac28d9f5d1895834cac7c551c715dfcc0e900ec58eebc713532a6", func := "example.com/reviewlore/reviewlore/zzlaws_internal_repeat_b1.FnQuotedLenCutsAndTails", spec := "fnQuotedLenCutsAndTails", apart := false }
def FnQuotedLenCutsAndTailsSaid : Prop := fnQuotedLenCutsAndTailsRow.holds Try.pinned (OpenSpec.ofChange fnQuotedLenCutsAndTailsSpec)

/-- ITS FALSE NEIGHBOUR: 'it returns false'. Refute it at one input. -/
def fnQuotedLenCutsAndTailsWrong : ChangeSpec := { name := "fnQuotedLenCutsAndTails", fn := fun _ => fun
  | [d1, d2, d3] => { results := [.lit (.bool false)], args := [d1, d2, d3] }
  | _ => none }
def FnQuotedLenCutsAndTailsWrongFalsely : Prop := fnQuotedLenCutsAndTailsRow.holds Try.pinned (OpenSpec.ofChange fnQuotedLenCutsAndTailsWrong)

/-- 'zzlaws_internal_repeat_b1.FnQuotedLenMeasuresGitQuotedPath': WHATEVER THE INPUT: true; the input reads as it did. -/
def fnQuotedLenMeasuresGitQuotedPathSpec : ChangeSpec := { name := "fnQuotedLenMeasuresGitQuotedPath", fn := fun _ => fun
  | [d1, d2] => { results := [.lit (.bool true)], args := [d1, d2] }
  | _ => none }
def fnQuotedLenMeasuresGitQuotedPathRow : OpenClaim := { program := "qxb6617273a", sum := "8b66ecf8891ac28d9f5d1895834cac7c551c715dfcc0e900ec58eebc713532a6", func := "example.com/reviewlore/reviewlore/zzlaws_internal_repeat_b1.FnQuotedLenMeasuresGitQuotedPath", spec := "fnQuotedLenMeasuresGitQuotedPath", apart := false }
def FnQuotedLenMeasuresGitQuotedPathSaid : Prop := fnQuotedLenMeasuresGitQuotedPathRow.holds Try.pinned (OpenSpec.ofChange fnQuotedLenMeasuresGitQuotedPathSpec)

/-- ITS FALSE NEIGHBOUR: 'it returns false'. Refute it at one input. -/
def fnQuotedLenMeasuresGitQuotedPathWrong : ChangeSpec := { name := "fnQuotedLenMeasuresGitQuotedPath", fn := fun _ => fun
  | [d1, d2] => { results := [.lit (.bool false)], args := [d1, d2] }
  | _ => none }
def FnQuotedLenMeasuresGitQuotedPathWrongFalsely : Prop := fnQuotedLenMeasuresGitQuotedPathRow.holds Try.pinned (OpenSpec.ofChange fnQuotedLenMeasuresGitQuotedPathWrong)

/-- 'zzlaws_internal_repeat_b1.FnHunkTakeScriptMatchesBlockModel': WHATEVER THE INPUT: true; the input reads as it did. -/
def fnHunkTakeScriptMatchesBlockModelSpec : ChangeSpec := { name := "fnHunkTakeScriptMatchesBlockModel", fn := fun _ => fun
  | [d1, d2, d3, d4, d5] => { results := [.lit (.bool true)], args := [d1, d2, d3, d4, d5] }
  | _ => none }
def fnHunkTakeScriptMatchesBlockModelRow : OpenClaim := { program := "qxb6617273a", sum := "8b66ecf8891ac28d9f5d1895834cac7c551c715dfcc0e900ec58eebc713532a6", func := "example.com/reviewlore/reviewlore/zzlaws_internal_repeat_b1.FnHunkTakeScriptMatchesBlockModel", spec := "fnHunkTakeScriptMatchesBlockModel", apart := false }
def FnHunkTakeScriptMatchesBlockModelSaid : Prop := fnHunkTakeScriptMatchesBlockModelRow.holds Try.pinned (OpenSpec.ofChange fnHunkTakeScriptMatchesBlockModelSpec)

/-- ITS FALSE NEIGHBOUR: 'it returns false'. Refute it at one input. -/
def fnHunkTakeScriptMatchesBlockModelWrong : ChangeSpec := { name := "fnHunkTakeScriptMatchesBlockModel", fn := fun _ => fun
  | [d1, d2, d3, d4, d5] => { results := [.lit (.bool false)], args := [d1, d2, d3, d4, d5] }
  | _ => none }
def FnHunkTakeScriptMatchesBlockModelWrongFalsely : Prop := fnHunkTakeScriptMatchesBlockModelRow.holds Try.pinned (OpenSpec.ofChange fnHunkTakeScriptMatchesBlockModelWrong)

end Rows
end Go.Proofs.Qxb6617273a

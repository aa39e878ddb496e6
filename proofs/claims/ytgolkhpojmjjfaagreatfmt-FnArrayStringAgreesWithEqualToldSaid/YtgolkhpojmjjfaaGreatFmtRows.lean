/-
  NARROWER THAN 'FOR EVERY INPUT', by the rows' own cells (each row's printed sentence says how): FnArrayStringAgreesWithEqual: laid · FnArrayStringNestedExact: laid.
  DERIVED. THE GIVEN ROWS OF THIS SEAT. 2 by the template 'for every input the law returns true; each argument reads behind the call as it read before'; 0 by the template 'total and deterministic' (their statements: YtgolkhpojmjjfaaGreatFmtTotals.lean).
  GIVEN WITH THE SEED: the statements are not yours to turn. If you find one false, say at which input.
  Laid BY PROGRAM, IN A SANDBOX (cutbox-rows.mjs): the forced cells as the released guide's own fill.sh prints them over the translation 742ca39e9ef0a10e… (all of the seat's roots in one cut). By AI agents, Wed Nov 11 2026. No macro, syntax, notation, axiom, sorry.
-/
import Derived.Test.YtgolkhpojmjjfaaGreatFmtChecked
import GoSem.Claim
import GoSem.ClaimJoined
import GoSem.ClaimMapViews
import Derived.JoinedTies
import Derived.KernelRfl
namespace Go.Proofs.YtgolkhpojmjjfaaGreatFmt
/- THE CELL 'sum', in the pinned program and in every row, IS THE sha256 OF THE DUMP (.gsa) THAT YtgolkhpojmjjfaaGreatFmtProg.lean LOADS. Nothing in Lean hashes anything: it is a label: what it is worth is what the hold of that sum in a sandbox is worth. -/
noncomputable def Tryz.pinned : Pinned := { name := "ytgolkhpojmjjfaagreatfmt", sum := "742ca39e9ef0a10eac000c151783625a49f0396fa813854e0a21113058236c14", checked := Tryz.checked }
namespace Rows
def none {H : Type} : Left H := { results := [], args := [] }

/- WHAT THE LISTED PACKAGE-LEVEL VARIABLES READ AS WHEN THE CALL BEGINS. Each datum BY PROGRAM (the guide's laid-datum.mjs) off the statement by which the dump's own 'gosem.cut.vars' lays the variable. In a bare row this is a premise. The card (YtgolkhpojmjjfaaGreatFmtCards.lean) ties it to the program's text. -/
def laid_github_com_expr_lang_expr_types_Nil {H : Type} : DataW H := .agg []
def laid_github_com_expr_lang_expr_types_Any {H : Type} : DataW H := .agg []

/-- 'n003_34.FnArrayStringAgreesWithEqual': WHATEVER THE INPUT: true; the input reads as it did. -/
def fnArrayStringAgreesWithEqualSpec : ChangeSpec := { name := "fnArrayStringAgreesWithEqual", vars := ["github.com/expr-lang/expr/types.Any", "github.com/expr-lang/expr/types.Nil"], fn := fun _ => fun
  | [d1, d2, d3, d4, g1, g2] => { results := [.lit (.bool true)], args := [d1, d2, d3, d4], vars := [g1, g2] }
  | _ => none }
def fnArrayStringAgreesWithEqualRow : OpenClaim := { program := "ytgolkhpojmjjfaagreatfmt", sum := "742ca39e9ef0a10eac000c151783625a49f0396fa813854e0a21113058236c14", func := "github.com/expr-lang/expr/n003_34.FnArrayStringAgreesWithEqual", spec := "fnArrayStringAgreesWithEqual", stops := ["fmt.Sprintf"], unfollowed := true, recurses := true, named := ["github.com/expr-lang/expr/types.Any", "github.com/expr-lang/expr/types.Nil"], make := .lifted ["reflectrows", "leanrows"], apart := false, laid := [("github.com/expr-lang/expr/types.Nil", laid_github_com_expr_lang_expr_types_Nil), ("github.com/expr-lang/expr/types.Any", laid_github_com_expr_lang_expr_types_Any)] }
/-- NO THEOREM (fmt's text is open here; it may be false): for the released tool's asking of the row's closed facts alone. THE STATEMENT IS 'FnArrayStringAgreesWithEqualToldSaid' (YtgolkhpojmjjfaaGreatFmtCards.lean). -/
def FnArrayStringAgreesWithEqualFormAsk : Prop := fnArrayStringAgreesWithEqualRow.holds Tryz.pinned (OpenSpec.ofChange fnArrayStringAgreesWithEqualSpec)

/-- ITS FALSE NEIGHBOUR: 'it returns false'. Refute it at one input. -/
def fnArrayStringAgreesWithEqualWrong : ChangeSpec := { name := "fnArrayStringAgreesWithEqual", vars := ["github.com/expr-lang/expr/types.Any", "github.com/expr-lang/expr/types.Nil"], fn := fun _ => fun
  | [d1, d2, d3, d4, g1, g2] => { results := [.lit (.bool false)], args := [d1, d2, d3, d4], vars := [g1, g2] }
  | _ => none }
def FnArrayStringAgreesWithEqualWrongFormAsk : Prop := fnArrayStringAgreesWithEqualRow.holds Tryz.pinned (OpenSpec.ofChange fnArrayStringAgreesWithEqualWrong)

/-- 'n003_34.FnArrayStringNestedExact': WHATEVER THE INPUT: true; the input reads as it did. -/
def fnArrayStringNestedExactSpec : ChangeSpec := { name := "fnArrayStringNestedExact", vars := ["github.com/expr-lang/expr/types.Any", "github.com/expr-lang/expr/types.Nil"], fn := fun _ => fun
  | [d1, d2, d3, g1, g2] => { results := [.lit (.bool true)], args := [d1, d2, d3], vars := [g1, g2] }
  | _ => none }
def fnArrayStringNestedExactRow : OpenClaim := { program := "ytgolkhpojmjjfaagreatfmt", sum := "742ca39e9ef0a10eac000c151783625a49f0396fa813854e0a21113058236c14", func := "github.com/expr-lang/expr/n003_34.FnArrayStringNestedExact", spec := "fnArrayStringNestedExact", stops := ["fmt.Sprintf"], unfollowed := true, recurses := true, named := ["github.com/expr-lang/expr/types.Any", "github.com/expr-lang/expr/types.Nil"], make := .lifted ["reflectrows", "leanrows"], apart := false, laid := [("github.com/expr-lang/expr/types.Nil", laid_github_com_expr_lang_expr_types_Nil), ("github.com/expr-lang/expr/types.Any", laid_github_com_expr_lang_expr_types_Any)] }
/-- NO THEOREM (fmt's text is open here; it may be false): for the released tool's asking of the row's closed facts alone. THE STATEMENT IS 'FnArrayStringNestedExactToldSaid' (YtgolkhpojmjjfaaGreatFmtCards.lean). -/
def FnArrayStringNestedExactFormAsk : Prop := fnArrayStringNestedExactRow.holds Tryz.pinned (OpenSpec.ofChange fnArrayStringNestedExactSpec)

/-- ITS FALSE NEIGHBOUR: 'it returns false'. Refute it at one input. -/
def fnArrayStringNestedExactWrong : ChangeSpec := { name := "fnArrayStringNestedExact", vars := ["github.com/expr-lang/expr/types.Any", "github.com/expr-lang/expr/types.Nil"], fn := fun _ => fun
  | [d1, d2, d3, g1, g2] => { results := [.lit (.bool false)], args := [d1, d2, d3], vars := [g1, g2] }
  | _ => none }
def FnArrayStringNestedExactWrongFormAsk : Prop := fnArrayStringNestedExactRow.holds Tryz.pinned (OpenSpec.ofChange fnArrayStringNestedExactWrong)

end Rows
end Go.Proofs.YtgolkhpojmjjfaaGreatFmt

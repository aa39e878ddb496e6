/-
  No cell of these rows narrows 'for every input' (looked for: loops, veiled, ifaces, maps, wideKeys, modest, calm, conditions, laid).
  DERIVED. THE GIVEN ROWS OF THIS SEAT. 5 by the template 'for every input the law returns true; each argument reads behind the call as it read before'; 0 by the template 'total and deterministic' (their statements: YtnpmgandmmlilaaGreatFmtTotals.lean).
  GIVEN WITH THE SEED: the statements are not yours to turn. If you find one false, say at which input.
  Laid BY PROGRAM, IN A SANDBOX (cutbox-rows.mjs): the forced cells as the released guide's own fill.sh prints them over the translation 93a7f3e9d286c6b8… (all of the seat's roots in one cut). By AI agents, Wed Nov 11 2026. No macro, syntax, notation, axiom, sorry.
-/
import Derived.Test.YtnpmgandmmlilaaGreatFmtChecked
import GoSem.Claim
import GoSem.ClaimJoined
import GoSem.ClaimMapViews
import Derived.JoinedTies
import Derived.KernelRfl
namespace Go.Proofs.YtnpmgandmmlilaaGreatFmt
/- THE CELL 'sum', in the pinned program and in every row, IS THE sha256 OF THE DUMP (.gsa) THAT YtnpmgandmmlilaaGreatFmtProg.lean LOADS. Nothing in Lean hashes anything: it is a label: what it is worth is what the hold of that sum in a sandbox is worth. -/
noncomputable def Tryz.pinned : Pinned := { name := "ytnpmgandmmlilaagreatfmt", sum := "93a7f3e9d286c6b8d03837761752ac59e1b16f6aae71694412c3695167791eba", checked := Tryz.checked }
namespace Rows
def none {H : Type} : Left H := { results := [], args := [] }

/-- 'n003_101.FnRtypeEqualCaseTable': WHATEVER THE INPUT: true; the input reads as it did. -/
def fnRtypeEqualCaseTableSpec : ChangeSpec := { name := "fnRtypeEqualCaseTable", fn := fun _ => fun
  | [d1, d2] => { results := [.lit (.bool true)], args := [d1, d2] }
  | _ => none }
def fnRtypeEqualCaseTableRow : OpenClaim := { program := "ytnpmgandmmlilaagreatfmt", sum := "93a7f3e9d286c6b8d03837761752ac59e1b16f6aae71694412c3695167791eba", func := "github.com/expr-lang/expr/n003_101.FnRtypeEqualCaseTable", spec := "fnRtypeEqualCaseTable", stops := ["fmt.Sprintf"], inPlace := ["reflect.TypeOf"], unfollowed := true, recurses := true, make := .lifted ["reflectrows", "leanrows"], apart := false }
/-- NO THEOREM (fmt's text is open here; it may be false): for the released tool's asking of the row's closed facts alone. THE STATEMENT IS 'FnRtypeEqualCaseTableToldSaid' (YtnpmgandmmlilaaGreatFmtCards.lean). -/
def FnRtypeEqualCaseTableFormAsk : Prop := fnRtypeEqualCaseTableRow.holds Tryz.pinned (OpenSpec.ofChange fnRtypeEqualCaseTableSpec)

/-- ITS FALSE NEIGHBOUR: 'it returns false'. Refute it at one input. -/
def fnRtypeEqualCaseTableWrong : ChangeSpec := { name := "fnRtypeEqualCaseTable", fn := fun _ => fun
  | [d1, d2] => { results := [.lit (.bool false)], args := [d1, d2] }
  | _ => none }
def FnRtypeEqualCaseTableWrongFormAsk : Prop := fnRtypeEqualCaseTableRow.holds Tryz.pinned (OpenSpec.ofChange fnRtypeEqualCaseTableWrong)

/-- 'n003_101.FnMapEqualReflexiveRefusesOthers': WHATEVER THE INPUT: true; the input reads as it did. -/
def fnMapEqualReflexiveRefusesOthersSpec : ChangeSpec := { name := "fnMapEqualReflexiveRefusesOthers", fn := fun _ => fun
  | [d1, d2, d3, d4, d5] => { results := [.lit (.bool true)], args := [d1, d2, d3, d4, d5] }
  | _ => none }
def fnMapEqualReflexiveRefusesOthersRow : OpenClaim := { program := "ytnpmgandmmlilaagreatfmt", sum := "93a7f3e9d286c6b8d03837761752ac59e1b16f6aae71694412c3695167791eba", func := "github.com/expr-lang/expr/n003_101.FnMapEqualReflexiveRefusesOthers", spec := "fnMapEqualReflexiveRefusesOthers", stops := ["fmt.Sprintf"], inPlace := ["reflect.TypeOf"], unfollowed := true, recurses := true, make := .lifted ["reflectrows", "leanrows"], apart := false }
/-- NO THEOREM (fmt's text is open here; it may be false): for the released tool's asking of the row's closed facts alone. THE STATEMENT IS 'FnMapEqualReflexiveRefusesOthersToldSaid' (YtnpmgandmmlilaaGreatFmtCards.lean). -/
def FnMapEqualReflexiveRefusesOthersFormAsk : Prop := fnMapEqualReflexiveRefusesOthersRow.holds Tryz.pinned (OpenSpec.ofChange fnMapEqualReflexiveRefusesOthersSpec)

/-- ITS FALSE NEIGHBOUR: 'it returns false'. Refute it at one input. -/
def fnMapEqualReflexiveRefusesOthersWrong : ChangeSpec := { name := "fnMapEqualReflexiveRefusesOthers", fn := fun _ => fun
  | [d1, d2, d3, d4, d5] => { results := [.lit (.bool false)], args := [d1, d2, d3, d4, d5] }
  | _ => none }
def FnMapEqualReflexiveRefusesOthersWrongFormAsk : Prop := fnMapEqualReflexiveRefusesOthersRow.holds Tryz.pinned (OpenSpec.ofChange fnMapEqualReflexiveRefusesOthersWrong)

/-- 'n003_64.FnNilEqualSymmetricRow': WHATEVER THE INPUT: true; the input reads as it did. -/
def fnNilEqualSymmetricRowSpec : ChangeSpec := { name := "fnNilEqualSymmetricRow", fn := fun _ => fun
  | [d1, d2] => { results := [.lit (.bool true)], args := [d1, d2] }
  | _ => none }
def fnNilEqualSymmetricRowRow : OpenClaim := { program := "ytnpmgandmmlilaagreatfmt", sum := "93a7f3e9d286c6b8d03837761752ac59e1b16f6aae71694412c3695167791eba", func := "github.com/expr-lang/expr/n003_64.FnNilEqualSymmetricRow", spec := "fnNilEqualSymmetricRow", stops := ["fmt.Sprintf"], inPlace := ["reflect.TypeOf"], unfollowed := true, recurses := true, make := .lifted ["reflectrows", "leanrows"], apart := false }
/-- NO THEOREM (fmt's text is open here; it may be false): for the released tool's asking of the row's closed facts alone. THE STATEMENT IS 'FnNilEqualSymmetricRowToldSaid' (YtnpmgandmmlilaaGreatFmtCards.lean). -/
def FnNilEqualSymmetricRowFormAsk : Prop := fnNilEqualSymmetricRowRow.holds Tryz.pinned (OpenSpec.ofChange fnNilEqualSymmetricRowSpec)

/-- ITS FALSE NEIGHBOUR: 'it returns false'. Refute it at one input. -/
def fnNilEqualSymmetricRowWrong : ChangeSpec := { name := "fnNilEqualSymmetricRow", fn := fun _ => fun
  | [d1, d2] => { results := [.lit (.bool false)], args := [d1, d2] }
  | _ => none }
def FnNilEqualSymmetricRowWrongFormAsk : Prop := fnNilEqualSymmetricRowRow.holds Tryz.pinned (OpenSpec.ofChange fnNilEqualSymmetricRowWrong)

/-- 'n003_101.FnMapEqualModel': WHATEVER THE INPUT: true; the input reads as it did. -/
def fnMapEqualModelSpec : ChangeSpec := { name := "fnMapEqualModel", fn := fun _ => fun
  | [d1, d2, d3, d4] => { results := [.lit (.bool true)], args := [d1, d2, d3, d4] }
  | _ => none }
def fnMapEqualModelRow : OpenClaim := { program := "ytnpmgandmmlilaagreatfmt", sum := "93a7f3e9d286c6b8d03837761752ac59e1b16f6aae71694412c3695167791eba", func := "github.com/expr-lang/expr/n003_101.FnMapEqualModel", spec := "fnMapEqualModel", stops := ["fmt.Sprintf"], inPlace := ["reflect.TypeOf"], unfollowed := true, recurses := true, make := .lifted ["reflectrows", "leanrows"], apart := false }
/-- NO THEOREM (fmt's text is open here; it may be false): for the released tool's asking of the row's closed facts alone. THE STATEMENT IS 'FnMapEqualModelToldSaid' (YtnpmgandmmlilaaGreatFmtCards.lean). -/
def FnMapEqualModelFormAsk : Prop := fnMapEqualModelRow.holds Tryz.pinned (OpenSpec.ofChange fnMapEqualModelSpec)

/-- ITS FALSE NEIGHBOUR: 'it returns false'. Refute it at one input. -/
def fnMapEqualModelWrong : ChangeSpec := { name := "fnMapEqualModel", fn := fun _ => fun
  | [d1, d2, d3, d4] => { results := [.lit (.bool false)], args := [d1, d2, d3, d4] }
  | _ => none }
def FnMapEqualModelWrongFormAsk : Prop := fnMapEqualModelRow.holds Tryz.pinned (OpenSpec.ofChange fnMapEqualModelWrong)

/-- 'n003_18.FnAnyIsTopFromTheOtherSide': WHATEVER THE INPUT: true; the input reads as it did. -/
def fnAnyIsTopFromTheOtherSideSpec : ChangeSpec := { name := "fnAnyIsTopFromTheOtherSide", fn := fun _ => fun
  | [d1, d2] => { results := [.lit (.bool true)], args := [d1, d2] }
  | _ => none }
def fnAnyIsTopFromTheOtherSideRow : OpenClaim := { program := "ytnpmgandmmlilaagreatfmt", sum := "93a7f3e9d286c6b8d03837761752ac59e1b16f6aae71694412c3695167791eba", func := "github.com/expr-lang/expr/n003_18.FnAnyIsTopFromTheOtherSide", spec := "fnAnyIsTopFromTheOtherSide", stops := ["fmt.Sprintf"], inPlace := ["reflect.TypeOf"], unfollowed := true, recurses := true, make := .lifted ["reflectrows", "leanrows"], apart := false }
/-- NO THEOREM (fmt's text is open here; it may be false): for the released tool's asking of the row's closed facts alone. THE STATEMENT IS 'FnAnyIsTopFromTheOtherSideToldSaid' (YtnpmgandmmlilaaGreatFmtCards.lean). -/
def FnAnyIsTopFromTheOtherSideFormAsk : Prop := fnAnyIsTopFromTheOtherSideRow.holds Tryz.pinned (OpenSpec.ofChange fnAnyIsTopFromTheOtherSideSpec)

/-- ITS FALSE NEIGHBOUR: 'it returns false'. Refute it at one input. -/
def fnAnyIsTopFromTheOtherSideWrong : ChangeSpec := { name := "fnAnyIsTopFromTheOtherSide", fn := fun _ => fun
  | [d1, d2] => { results := [.lit (.bool false)], args := [d1, d2] }
  | _ => none }
def FnAnyIsTopFromTheOtherSideWrongFormAsk : Prop := fnAnyIsTopFromTheOtherSideRow.holds Tryz.pinned (OpenSpec.ofChange fnAnyIsTopFromTheOtherSideWrong)

end Rows
end Go.Proofs.YtnpmgandmmlilaaGreatFmt

/-
  DERIVED. GIVEN WITH THE SEED: THE CARDS: each row of YtnpmgandmmlilaaGreatFmtRows.lean that lists a variable, with what it lists TIED to the program's text (the seventh form; the later family's looks); each row that meets fmt, with fmt's text TOLD by the authors' own Lean function (tested against real Go, not proved from fmt's source: count such statements apart). THE CARD IS WHAT COUNTS. Prove the row's statement (the work); the ties are given (YtnpmgandmmlilaaGreatFmtTie.lean); close each card by the builder's one call (the guide's Derived/Test/ToyasCard.lean, 'card_holds'). Laid BY PROGRAM, IN A SANDBOX (cutbox-door.mjs). By AI agents, Wed Nov 11 2026. No macro, syntax, notation, axiom, sorry.
-/
import Derived.Test.YtnpmgandmmlilaaGreatFmtRows
import GoSem.ClaimSeven
namespace Go.Proofs.YtnpmgandmmlilaaGreatFmt
namespace Rows

/-- THE TOLD CARD OF 'n003_101.FnRtypeEqualCaseTable'. -/
def fnRtypeEqualCaseTableCard : Claim7 := { stood := { row := fnRtypeEqualCaseTableRow, standIns := [], harness := (true, "6803a66f4452d3c2aa4abd26d9351c4f903fa7d30cf7663e0d85d16b495c29d2"), looks := true }, told := true, goes := false }
def FnRtypeEqualCaseTableToldSaid : Prop := Claim7.holds Tryz.pinned (.plain (OpenSpec.ofChange fnRtypeEqualCaseTableSpec)) fnRtypeEqualCaseTableCard
/-- ITS FALSE NEIGHBOUR. Refute it at one input. -/
def FnRtypeEqualCaseTableToldWrongFalsely : Prop := Claim7.holds Tryz.pinned (.plain (OpenSpec.ofChange fnRtypeEqualCaseTableWrong)) fnRtypeEqualCaseTableCard

/-- THE TOLD CARD OF 'n003_101.FnMapEqualReflexiveRefusesOthers'. -/
def fnMapEqualReflexiveRefusesOthersCard : Claim7 := { stood := { row := fnMapEqualReflexiveRefusesOthersRow, standIns := [], harness := (true, "6803a66f4452d3c2aa4abd26d9351c4f903fa7d30cf7663e0d85d16b495c29d2"), looks := true }, told := true, goes := false }
def FnMapEqualReflexiveRefusesOthersToldSaid : Prop := Claim7.holds Tryz.pinned (.plain (OpenSpec.ofChange fnMapEqualReflexiveRefusesOthersSpec)) fnMapEqualReflexiveRefusesOthersCard
/-- ITS FALSE NEIGHBOUR. Refute it at one input. -/
def FnMapEqualReflexiveRefusesOthersToldWrongFalsely : Prop := Claim7.holds Tryz.pinned (.plain (OpenSpec.ofChange fnMapEqualReflexiveRefusesOthersWrong)) fnMapEqualReflexiveRefusesOthersCard

/-- THE TOLD CARD OF 'n003_64.FnNilEqualSymmetricRow'. -/
def fnNilEqualSymmetricRowCard : Claim7 := { stood := { row := fnNilEqualSymmetricRowRow, standIns := [], harness := (true, "6803a66f4452d3c2aa4abd26d9351c4f903fa7d30cf7663e0d85d16b495c29d2"), looks := true }, told := true, goes := false }
def FnNilEqualSymmetricRowToldSaid : Prop := Claim7.holds Tryz.pinned (.plain (OpenSpec.ofChange fnNilEqualSymmetricRowSpec)) fnNilEqualSymmetricRowCard
/-- ITS FALSE NEIGHBOUR. Refute it at one input. -/
def FnNilEqualSymmetricRowToldWrongFalsely : Prop := Claim7.holds Tryz.pinned (.plain (OpenSpec.ofChange fnNilEqualSymmetricRowWrong)) fnNilEqualSymmetricRowCard

/-- THE TOLD CARD OF 'n003_101.FnMapEqualModel'. -/
def fnMapEqualModelCard : Claim7 := { stood := { row := fnMapEqualModelRow, standIns := [], harness := (true, "6803a66f4452d3c2aa4abd26d9351c4f903fa7d30cf7663e0d85d16b495c29d2"), looks := true }, told := true, goes := false }
def FnMapEqualModelToldSaid : Prop := Claim7.holds Tryz.pinned (.plain (OpenSpec.ofChange fnMapEqualModelSpec)) fnMapEqualModelCard
/-- ITS FALSE NEIGHBOUR. Refute it at one input. -/
def FnMapEqualModelToldWrongFalsely : Prop := Claim7.holds Tryz.pinned (.plain (OpenSpec.ofChange fnMapEqualModelWrong)) fnMapEqualModelCard

/-- THE TOLD CARD OF 'n003_18.FnAnyIsTopFromTheOtherSide'. -/
def fnAnyIsTopFromTheOtherSideCard : Claim7 := { stood := { row := fnAnyIsTopFromTheOtherSideRow, standIns := [], harness := (true, "6803a66f4452d3c2aa4abd26d9351c4f903fa7d30cf7663e0d85d16b495c29d2"), looks := true }, told := true, goes := false }
def FnAnyIsTopFromTheOtherSideToldSaid : Prop := Claim7.holds Tryz.pinned (.plain (OpenSpec.ofChange fnAnyIsTopFromTheOtherSideSpec)) fnAnyIsTopFromTheOtherSideCard
/-- ITS FALSE NEIGHBOUR. Refute it at one input. -/
def FnAnyIsTopFromTheOtherSideToldWrongFalsely : Prop := Claim7.holds Tryz.pinned (.plain (OpenSpec.ofChange fnAnyIsTopFromTheOtherSideWrong)) fnAnyIsTopFromTheOtherSideCard
end Rows
end Go.Proofs.YtnpmgandmmlilaaGreatFmt

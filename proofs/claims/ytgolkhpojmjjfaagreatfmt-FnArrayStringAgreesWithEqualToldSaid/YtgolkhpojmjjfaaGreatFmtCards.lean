/-
  DERIVED. GIVEN WITH THE SEED: THE CARDS: each row of YtgolkhpojmjjfaaGreatFmtRows.lean that lists a variable, with what it lists TIED to the program's text (the seventh form; the later family's looks); each row that meets fmt, with fmt's text TOLD by the authors' own Lean function (tested against real Go, not proved from fmt's source: count such statements apart). THE CARD IS WHAT COUNTS. Prove the row's statement (the work); the ties are given (YtgolkhpojmjjfaaGreatFmtTie.lean); close each card by the builder's one call (the guide's Derived/Test/ToyasCard.lean, 'card_holds'). Laid BY PROGRAM, IN A SANDBOX (cutbox-door.mjs). By AI agents, Wed Nov 11 2026. No macro, syntax, notation, axiom, sorry.
-/
import Derived.Test.YtgolkhpojmjjfaaGreatFmtRows
import GoSem.ClaimSeven
namespace Go.Proofs.YtgolkhpojmjjfaaGreatFmt
namespace Rows

/-- THE TOLD AND TIED CARD OF 'n003_34.FnArrayStringAgreesWithEqual'. -/
def fnArrayStringAgreesWithEqualCard : Claim7 := { stood := { row := fnArrayStringAgreesWithEqualRow, standIns := [], harness := (true, "94def3ed69cab66c6728fbd83fe3c203153023e6ffd1c7419b4ab4c5ff510849"), looks := true }, told := true, laidByText := true, laidKinds := [.data, .data], laidTests := true, laidLooks := .later, goes := false }
def FnArrayStringAgreesWithEqualToldSaid : Prop := Claim7.holds Tryz.pinned (.plain (OpenSpec.ofChange fnArrayStringAgreesWithEqualSpec)) fnArrayStringAgreesWithEqualCard
/-- ITS FALSE NEIGHBOUR. Refute it at one input. -/
def FnArrayStringAgreesWithEqualToldWrongFalsely : Prop := Claim7.holds Tryz.pinned (.plain (OpenSpec.ofChange fnArrayStringAgreesWithEqualWrong)) fnArrayStringAgreesWithEqualCard

/-- THE TOLD AND TIED CARD OF 'n003_34.FnArrayStringNestedExact'. -/
def fnArrayStringNestedExactCard : Claim7 := { stood := { row := fnArrayStringNestedExactRow, standIns := [], harness := (true, "94def3ed69cab66c6728fbd83fe3c203153023e6ffd1c7419b4ab4c5ff510849"), looks := true }, told := true, laidByText := true, laidKinds := [.data, .data], laidTests := true, laidLooks := .later, goes := false }
def FnArrayStringNestedExactToldSaid : Prop := Claim7.holds Tryz.pinned (.plain (OpenSpec.ofChange fnArrayStringNestedExactSpec)) fnArrayStringNestedExactCard
/-- ITS FALSE NEIGHBOUR. Refute it at one input. -/
def FnArrayStringNestedExactToldWrongFalsely : Prop := Claim7.holds Tryz.pinned (.plain (OpenSpec.ofChange fnArrayStringNestedExactWrong)) fnArrayStringNestedExactCard
end Rows
end Go.Proofs.YtgolkhpojmjjfaaGreatFmt

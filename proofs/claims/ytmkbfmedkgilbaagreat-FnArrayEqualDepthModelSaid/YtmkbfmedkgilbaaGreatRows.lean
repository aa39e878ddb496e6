/-
  No cell of these rows narrows 'for every input' (looked for: loops, veiled, ifaces, maps, wideKeys, modest, calm, conditions, laid).
  DERIVED. THE GIVEN ROWS OF THIS SEAT. 3 by the template 'for every input the law returns true; each argument reads behind the call as it read before'; 0 by the template 'total and deterministic' (their statements: YtmkbfmedkgilbaaGreatTotals.lean).
  GIVEN WITH THE SEED: the statements are not yours to turn. If you find one false, say at which input.
  Laid BY PROGRAM, IN A SANDBOX (cutbox-rows.mjs): the forced cells as the released guide's own fill.sh prints them over the translation 28104132b6556ecc… (all of the seat's roots in one cut). By AI agents, Wed Nov 11 2026. No macro, syntax, notation, axiom, sorry.
-/
import Derived.Test.YtmkbfmedkgilbaaGreatChecked
import GoSem.Claim
import GoSem.ClaimJoined
import GoSem.ClaimMapViews
import Derived.JoinedTies
import Derived.KernelRfl
namespace Go.Proofs.YtmkbfmedkgilbaaGreat
/- THE CELL 'sum', in the pinned program and in every row, IS THE sha256 OF THE DUMP (.gsa) THAT YtmkbfmedkgilbaaGreatProg.lean LOADS. Nothing in Lean hashes anything: it is a label: what it is worth is what the hold of that sum in a sandbox is worth. -/
noncomputable def Tryz.pinned : Pinned := { name := "ytmkbfmedkgilbaagreat", sum := "28104132b6556ecc6e77e3b6d2eb84013fdde0a33ed84ac467b1f66b53d9d062", checked := Tryz.checked }
namespace Rows
def none {H : Type} : Left H := { results := [], args := [] }

/-- 'n003_99.FnArrayEqualDepthModel': WHATEVER THE INPUT: true; the input reads as it did. -/
def fnArrayEqualDepthModelSpec : ChangeSpec := { name := "fnArrayEqualDepthModel", fn := fun _ => fun
  | [d1, d2, d3, d4] => { results := [.lit (.bool true)], args := [d1, d2, d3, d4] }
  | _ => none }
def fnArrayEqualDepthModelRow : OpenClaim := { program := "ytmkbfmedkgilbaagreat", sum := "28104132b6556ecc6e77e3b6d2eb84013fdde0a33ed84ac467b1f66b53d9d062", func := "github.com/expr-lang/expr/n003_99.FnArrayEqualDepthModel", spec := "fnArrayEqualDepthModel", unfollowed := true, recurses := true, make := .lifted ["reflectrows", "leanrows"], apart := false }
def FnArrayEqualDepthModelSaid : Prop := fnArrayEqualDepthModelRow.holds Tryz.pinned (OpenSpec.ofChange fnArrayEqualDepthModelSpec)

/-- ITS FALSE NEIGHBOUR: 'it returns false'. Refute it at one input. -/
def fnArrayEqualDepthModelWrong : ChangeSpec := { name := "fnArrayEqualDepthModel", fn := fun _ => fun
  | [d1, d2, d3, d4] => { results := [.lit (.bool false)], args := [d1, d2, d3, d4] }
  | _ => none }
def FnArrayEqualDepthModelWrongFalsely : Prop := fnArrayEqualDepthModelRow.holds Tryz.pinned (OpenSpec.ofChange fnArrayEqualDepthModelWrong)

/-- 'n003_99.FnArrayEqualReflexiveAndAny': WHATEVER THE INPUT: true; the input reads as it did. -/
def fnArrayEqualReflexiveAndAnySpec : ChangeSpec := { name := "fnArrayEqualReflexiveAndAny", fn := fun _ => fun
  | [d1, d2] => { results := [.lit (.bool true)], args := [d1, d2] }
  | _ => none }
def fnArrayEqualReflexiveAndAnyRow : OpenClaim := { program := "ytmkbfmedkgilbaagreat", sum := "28104132b6556ecc6e77e3b6d2eb84013fdde0a33ed84ac467b1f66b53d9d062", func := "github.com/expr-lang/expr/n003_99.FnArrayEqualReflexiveAndAny", spec := "fnArrayEqualReflexiveAndAny", unfollowed := true, recurses := true, make := .lifted ["reflectrows", "leanrows"], apart := false }
def FnArrayEqualReflexiveAndAnySaid : Prop := fnArrayEqualReflexiveAndAnyRow.holds Tryz.pinned (OpenSpec.ofChange fnArrayEqualReflexiveAndAnySpec)

/-- ITS FALSE NEIGHBOUR: 'it returns false'. Refute it at one input. -/
def fnArrayEqualReflexiveAndAnyWrong : ChangeSpec := { name := "fnArrayEqualReflexiveAndAny", fn := fun _ => fun
  | [d1, d2] => { results := [.lit (.bool false)], args := [d1, d2] }
  | _ => none }
def FnArrayEqualReflexiveAndAnyWrongFalsely : Prop := fnArrayEqualReflexiveAndAnyRow.holds Tryz.pinned (OpenSpec.ofChange fnArrayEqualReflexiveAndAnyWrong)

/-- 'n003_99.FnArrayAgainstBases': WHATEVER THE INPUT: true; the input reads as it did. -/
def fnArrayAgainstBasesSpec : ChangeSpec := { name := "fnArrayAgainstBases", fn := fun _ => fun
  | [d1, d2] => { results := [.lit (.bool true)], args := [d1, d2] }
  | _ => none }
def fnArrayAgainstBasesRow : OpenClaim := { program := "ytmkbfmedkgilbaagreat", sum := "28104132b6556ecc6e77e3b6d2eb84013fdde0a33ed84ac467b1f66b53d9d062", func := "github.com/expr-lang/expr/n003_99.FnArrayAgainstBases", spec := "fnArrayAgainstBases", unfollowed := true, recurses := true, make := .lifted ["reflectrows", "leanrows"], apart := false }
def FnArrayAgainstBasesSaid : Prop := fnArrayAgainstBasesRow.holds Tryz.pinned (OpenSpec.ofChange fnArrayAgainstBasesSpec)

/-- ITS FALSE NEIGHBOUR: 'it returns false'. Refute it at one input. -/
def fnArrayAgainstBasesWrong : ChangeSpec := { name := "fnArrayAgainstBases", fn := fun _ => fun
  | [d1, d2] => { results := [.lit (.bool false)], args := [d1, d2] }
  | _ => none }
def FnArrayAgainstBasesWrongFalsely : Prop := fnArrayAgainstBasesRow.holds Tryz.pinned (OpenSpec.ofChange fnArrayAgainstBasesWrong)

/- THE SECOND FORM. 'bulk': how many values and letters a reading holds, each counted each time it is reached (what is shared counts as often as it is met; a slice's spare places count too). A statement '..UptoSaid' is the law's where the arguments, and the package variables that the reading takes, are together of bulk at most 1048576: NARROWER than '..Said'. Prove '..Said' where nothing that the law and all that it calls make is longer than what came in: it says more and counts as full. Else prove '..UptoSaid'. A law counts once. -/
mutual
def uptoBulk {H : Type} : DataW H → Nat
  | .lit (.string bytes) => bytes.length + 1
  | .lit _ => 1
  | .nil => 1
  | .ptr d => uptoBulk d + 1
  | .slice elems spare => uptoBulkAll elems + uptoBulkAll spare + 1
  | .agg parts => uptoBulkAll parts + 1
  | .iface _ d => uptoBulk d + 1
  | .map entries => uptoBulkEntries entries + 1
  | .held _ => 1
def uptoBulkAll {H : Type} : List (DataW H) → Nat
  | [] => 0
  | d :: r => uptoBulk d + uptoBulkAll r
def uptoBulkEntries {H : Type} : List (Lit × DataW H) → Nat
  | [] => 0
  | x :: r => uptoBulkEntry x + uptoBulkEntries r
def uptoBulkEntry {H : Type} : Lit × DataW H → Nat
  | (.string bytes, d) => bytes.length + uptoBulk d + 1
  | (_, d) => uptoBulk d + 1
 end
def uptoSmall : (H : Type) → List (DataW H) → Bool := fun _ ds => decide (uptoBulkAll ds ≤ 1048576)
def OpenSpec.upto (s : _root_.Go.ChangeSpec) : _root_.Go.OpenSpec := { _root_.Go.OpenSpec.ofChange s with cond := some uptoSmall }

/-- 'n003_99.FnArrayEqualDepthModel', WHERE WHAT IT READS IS OF BULK AT MOST 1048576: true; the input reads as it did. -/
def fnArrayEqualDepthModelUptoRow : OpenClaim := { program := "ytmkbfmedkgilbaagreat", sum := "28104132b6556ecc6e77e3b6d2eb84013fdde0a33ed84ac467b1f66b53d9d062", func := "github.com/expr-lang/expr/n003_99.FnArrayEqualDepthModel", spec := "fnArrayEqualDepthModel", unfollowed := true, recurses := true, make := .lifted ["reflectrows", "leanrows"], apart := false, narrowed := true }
def FnArrayEqualDepthModelUptoSaid : Prop := fnArrayEqualDepthModelUptoRow.holds Tryz.pinned (OpenSpec.upto fnArrayEqualDepthModelSpec)

/-- 'n003_99.FnArrayEqualReflexiveAndAny', WHERE WHAT IT READS IS OF BULK AT MOST 1048576: true; the input reads as it did. -/
def fnArrayEqualReflexiveAndAnyUptoRow : OpenClaim := { program := "ytmkbfmedkgilbaagreat", sum := "28104132b6556ecc6e77e3b6d2eb84013fdde0a33ed84ac467b1f66b53d9d062", func := "github.com/expr-lang/expr/n003_99.FnArrayEqualReflexiveAndAny", spec := "fnArrayEqualReflexiveAndAny", unfollowed := true, recurses := true, make := .lifted ["reflectrows", "leanrows"], apart := false, narrowed := true }
def FnArrayEqualReflexiveAndAnyUptoSaid : Prop := fnArrayEqualReflexiveAndAnyUptoRow.holds Tryz.pinned (OpenSpec.upto fnArrayEqualReflexiveAndAnySpec)

/-- 'n003_99.FnArrayAgainstBases', WHERE WHAT IT READS IS OF BULK AT MOST 1048576: true; the input reads as it did. -/
def fnArrayAgainstBasesUptoRow : OpenClaim := { program := "ytmkbfmedkgilbaagreat", sum := "28104132b6556ecc6e77e3b6d2eb84013fdde0a33ed84ac467b1f66b53d9d062", func := "github.com/expr-lang/expr/n003_99.FnArrayAgainstBases", spec := "fnArrayAgainstBases", unfollowed := true, recurses := true, make := .lifted ["reflectrows", "leanrows"], apart := false, narrowed := true }
def FnArrayAgainstBasesUptoSaid : Prop := fnArrayAgainstBasesUptoRow.holds Tryz.pinned (OpenSpec.upto fnArrayAgainstBasesSpec)

end Rows
end Go.Proofs.YtmkbfmedkgilbaaGreat

/-
  No cell of these rows narrows 'for every input' (looked for: loops, veiled, ifaces, maps, wideKeys, modest, calm, conditions, laid).
  DERIVED. THE GIVEN ROWS OF THIS SEAT. 4 by the template 'for every input the law returns true; each argument reads behind the call as it read before'; 0 by the template 'total and deterministic' (their statements: YthhijnemlhjpgaaGreatTotals.lean).
  GIVEN WITH THE SEED: the statements are not yours to turn. If you find one false, say at which input.
  Laid BY PROGRAM, IN A SANDBOX (cutbox-rows.mjs): the forced cells as the released guide's own fill.sh prints them over the translation 7942113ff8d96efa… (all of the seat's roots in one cut). By AI agents, Wed Nov 11 2026. No macro, syntax, notation, axiom, sorry.
-/
import Derived.Test.YthhijnemlhjpgaaGreatChecked
import GoSem.Claim
import GoSem.ClaimJoined
import GoSem.ClaimMapViews
import Derived.JoinedTies
import Derived.KernelRfl
namespace Go.Proofs.YthhijnemlhjpgaaGreat
/- THE CELL 'sum', in the pinned program and in every row, IS THE sha256 OF THE DUMP (.gsa) THAT YthhijnemlhjpgaaGreatProg.lean LOADS. Nothing in Lean hashes anything: it is a label: what it is worth is what the hold of that sum in a sandbox is worth. -/
noncomputable def Tryz.pinned : Pinned := { name := "ythhijnemlhjpgaagreat", sum := "7942113ff8d96efa3810ef90ad049080a93b9027b73d2966272a9f2cc0476f16", checked := Tryz.checked }
namespace Rows
def none {H : Type} : Left H := { results := [], args := [] }

/-- 'n003_104.FnInArrayIntSetExact': WHATEVER THE INPUT: true; the input reads as it did. -/
def fnInArrayIntSetExactSpec : ChangeSpec := { name := "fnInArrayIntSetExact", fn := fun _ => fun
  | [d1, d2, d3] => { results := [.lit (.bool true)], args := [d1, d2, d3] }
  | _ => none }
def fnInArrayIntSetExactRow : OpenClaim := { program := "ythhijnemlhjpgaagreat", sum := "7942113ff8d96efa3810ef90ad049080a93b9027b73d2966272a9f2cc0476f16", func := "github.com/expr-lang/expr/n003_104.FnInArrayIntSetExact", spec := "fnInArrayIntSetExact", inPlace := ["reflect.TypeOf"], unfollowed := true, recurses := true, make := .lifted ["reflectrows", "leanrows"], apart := false }
def FnInArrayIntSetExactSaid : Prop := fnInArrayIntSetExactRow.holds Tryz.pinned (OpenSpec.ofChange fnInArrayIntSetExactSpec)

/-- ITS FALSE NEIGHBOUR: 'it returns false'. Refute it at one input. -/
def fnInArrayIntSetExactWrong : ChangeSpec := { name := "fnInArrayIntSetExact", fn := fun _ => fun
  | [d1, d2, d3] => { results := [.lit (.bool false)], args := [d1, d2, d3] }
  | _ => none }
def FnInArrayIntSetExactWrongFalsely : Prop := fnInArrayIntSetExactRow.holds Tryz.pinned (OpenSpec.ofChange fnInArrayIntSetExactWrong)

/-- 'n003_104.FnInArrayStringSetExact': WHATEVER THE INPUT: true; the input reads as it did. -/
def fnInArrayStringSetExactSpec : ChangeSpec := { name := "fnInArrayStringSetExact", fn := fun _ => fun
  | [d1, d2, d3] => { results := [.lit (.bool true)], args := [d1, d2, d3] }
  | _ => none }
def fnInArrayStringSetExactRow : OpenClaim := { program := "ythhijnemlhjpgaagreat", sum := "7942113ff8d96efa3810ef90ad049080a93b9027b73d2966272a9f2cc0476f16", func := "github.com/expr-lang/expr/n003_104.FnInArrayStringSetExact", spec := "fnInArrayStringSetExact", inPlace := ["reflect.TypeOf"], unfollowed := true, recurses := true, make := .lifted ["reflectrows", "leanrows"], apart := false }
def FnInArrayStringSetExactSaid : Prop := fnInArrayStringSetExactRow.holds Tryz.pinned (OpenSpec.ofChange fnInArrayStringSetExactSpec)

/-- ITS FALSE NEIGHBOUR: 'it returns false'. Refute it at one input. -/
def fnInArrayStringSetExactWrong : ChangeSpec := { name := "fnInArrayStringSetExact", fn := fun _ => fun
  | [d1, d2, d3] => { results := [.lit (.bool false)], args := [d1, d2, d3] }
  | _ => none }
def FnInArrayStringSetExactWrongFalsely : Prop := fnInArrayStringSetExactRow.holds Tryz.pinned (OpenSpec.ofChange fnInArrayStringSetExactWrong)

/-- 'n003_104.FnInRangeRewriteKeepsMembership': WHATEVER THE INPUT: true; the input reads as it did. -/
def fnInRangeRewriteKeepsMembershipSpec : ChangeSpec := { name := "fnInRangeRewriteKeepsMembership", fn := fun _ => fun
  | [d1, d2, d3, d4] => { results := [.lit (.bool true)], args := [d1, d2, d3, d4] }
  | _ => none }
def fnInRangeRewriteKeepsMembershipRow : OpenClaim := { program := "ythhijnemlhjpgaagreat", sum := "7942113ff8d96efa3810ef90ad049080a93b9027b73d2966272a9f2cc0476f16", func := "github.com/expr-lang/expr/n003_104.FnInRangeRewriteKeepsMembership", spec := "fnInRangeRewriteKeepsMembership", inPlace := ["reflect.TypeOf"], unfollowed := true, recurses := true, make := .lifted ["reflectrows", "leanrows"], apart := false }
def FnInRangeRewriteKeepsMembershipSaid : Prop := fnInRangeRewriteKeepsMembershipRow.holds Tryz.pinned (OpenSpec.ofChange fnInRangeRewriteKeepsMembershipSpec)

/-- ITS FALSE NEIGHBOUR: 'it returns false'. Refute it at one input. -/
def fnInRangeRewriteKeepsMembershipWrong : ChangeSpec := { name := "fnInRangeRewriteKeepsMembership", fn := fun _ => fun
  | [d1, d2, d3, d4] => { results := [.lit (.bool false)], args := [d1, d2, d3, d4] }
  | _ => none }
def FnInRangeRewriteKeepsMembershipWrongFalsely : Prop := fnInRangeRewriteKeepsMembershipRow.holds Tryz.pinned (OpenSpec.ofChange fnInRangeRewriteKeepsMembershipWrong)

/-- 'n003_11.FnSetNatureStoresACopy': WHATEVER THE INPUT: true; the input reads as it did. -/
def fnSetNatureStoresACopySpec : ChangeSpec := { name := "fnSetNatureStoresACopy", fn := fun _ => fun
  | [d1, d2, d3] => { results := [.lit (.bool true)], args := [d1, d2, d3] }
  | _ => none }
def fnSetNatureStoresACopyRow : OpenClaim := { program := "ythhijnemlhjpgaagreat", sum := "7942113ff8d96efa3810ef90ad049080a93b9027b73d2966272a9f2cc0476f16", func := "github.com/expr-lang/expr/n003_11.FnSetNatureStoresACopy", spec := "fnSetNatureStoresACopy", inPlace := ["reflect.TypeOf"], unfollowed := true, recurses := true, make := .lifted ["reflectrows", "leanrows"], apart := false }
def FnSetNatureStoresACopySaid : Prop := fnSetNatureStoresACopyRow.holds Tryz.pinned (OpenSpec.ofChange fnSetNatureStoresACopySpec)

/-- ITS FALSE NEIGHBOUR: 'it returns false'. Refute it at one input. -/
def fnSetNatureStoresACopyWrong : ChangeSpec := { name := "fnSetNatureStoresACopy", fn := fun _ => fun
  | [d1, d2, d3] => { results := [.lit (.bool false)], args := [d1, d2, d3] }
  | _ => none }
def FnSetNatureStoresACopyWrongFalsely : Prop := fnSetNatureStoresACopyRow.holds Tryz.pinned (OpenSpec.ofChange fnSetNatureStoresACopyWrong)

/- THE SECOND FORM. 'bulk': how many values and letters a reading holds, each counted each time it is reached (what is shared counts as often as it is met; a slice's spare places count too). A statement '..UptoSaid' is the law's where the arguments, and the package variables that the reading takes, are together of bulk at most 1048576: NARROWER than '..Said'. Prove '..Said' where nothing that the law and all that it calls make is longer than what came in: it says more and counts as full. Else prove '..UptoSaid'. A law counts once. -/
mutual
def uptoBulk {H : Type} : DataW H → Nat
  | .lit (.string bytes) => bytes.length + 1
  | .lit _ => 1
  | .nil => 1
  | .ptr d => uptoBulk d + 1
  | .slice elems spare => uptoBulkAll elems + uptoBulkAll spare + 1
  | .agg parts => uptoBulkAll parts + 1
  | .iface _ d => uptoBulk d + 1
  | .map entries => uptoBulkEntries entries + 1
  | .held _ => 1
def uptoBulkAll {H : Type} : List (DataW H) → Nat
  | [] => 0
  | d :: r => uptoBulk d + uptoBulkAll r
def uptoBulkEntries {H : Type} : List (Lit × DataW H) → Nat
  | [] => 0
  | x :: r => uptoBulkEntry x + uptoBulkEntries r
def uptoBulkEntry {H : Type} : Lit × DataW H → Nat
  | (.string bytes, d) => bytes.length + uptoBulk d + 1
  | (_, d) => uptoBulk d + 1
 end
def uptoSmall : (H : Type) → List (DataW H) → Bool := fun _ ds => decide (uptoBulkAll ds ≤ 1048576)
def OpenSpec.upto (s : _root_.Go.ChangeSpec) : _root_.Go.OpenSpec := { _root_.Go.OpenSpec.ofChange s with cond := some uptoSmall }

/-- 'n003_104.FnInArrayIntSetExact', WHERE WHAT IT READS IS OF BULK AT MOST 1048576: true; the input reads as it did. -/
def fnInArrayIntSetExactUptoRow : OpenClaim := { program := "ythhijnemlhjpgaagreat", sum := "7942113ff8d96efa3810ef90ad049080a93b9027b73d2966272a9f2cc0476f16", func := "github.com/expr-lang/expr/n003_104.FnInArrayIntSetExact", spec := "fnInArrayIntSetExact", inPlace := ["reflect.TypeOf"], unfollowed := true, recurses := true, make := .lifted ["reflectrows", "leanrows"], apart := false, narrowed := true }
def FnInArrayIntSetExactUptoSaid : Prop := fnInArrayIntSetExactUptoRow.holds Tryz.pinned (OpenSpec.upto fnInArrayIntSetExactSpec)

/-- 'n003_104.FnInArrayStringSetExact', WHERE WHAT IT READS IS OF BULK AT MOST 1048576: true; the input reads as it did. -/
def fnInArrayStringSetExactUptoRow : OpenClaim := { program := "ythhijnemlhjpgaagreat", sum := "7942113ff8d96efa3810ef90ad049080a93b9027b73d2966272a9f2cc0476f16", func := "github.com/expr-lang/expr/n003_104.FnInArrayStringSetExact", spec := "fnInArrayStringSetExact", inPlace := ["reflect.TypeOf"], unfollowed := true, recurses := true, make := .lifted ["reflectrows", "leanrows"], apart := false, narrowed := true }
def FnInArrayStringSetExactUptoSaid : Prop := fnInArrayStringSetExactUptoRow.holds Tryz.pinned (OpenSpec.upto fnInArrayStringSetExactSpec)

/-- 'n003_104.FnInRangeRewriteKeepsMembership', WHERE WHAT IT READS IS OF BULK AT MOST 1048576: true; the input reads as it did. -/
def fnInRangeRewriteKeepsMembershipUptoRow : OpenClaim := { program := "ythhijnemlhjpgaagreat", sum := "7942113ff8d96efa3810ef90ad049080a93b9027b73d2966272a9f2cc0476f16", func := "github.com/expr-lang/expr/n003_104.FnInRangeRewriteKeepsMembership", spec := "fnInRangeRewriteKeepsMembership", inPlace := ["reflect.TypeOf"], unfollowed := true, recurses := true, make := .lifted ["reflectrows", "leanrows"], apart := false, narrowed := true }
def FnInRangeRewriteKeepsMembershipUptoSaid : Prop := fnInRangeRewriteKeepsMembershipUptoRow.holds Tryz.pinned (OpenSpec.upto fnInRangeRewriteKeepsMembershipSpec)

/-- 'n003_11.FnSetNatureStoresACopy', WHERE WHAT IT READS IS OF BULK AT MOST 1048576: true; the input reads as it did. -/
def fnSetNatureStoresACopyUptoRow : OpenClaim := { program := "ythhijnemlhjpgaagreat", sum := "7942113ff8d96efa3810ef90ad049080a93b9027b73d2966272a9f2cc0476f16", func := "github.com/expr-lang/expr/n003_11.FnSetNatureStoresACopy", spec := "fnSetNatureStoresACopy", inPlace := ["reflect.TypeOf"], unfollowed := true, recurses := true, make := .lifted ["reflectrows", "leanrows"], apart := false, narrowed := true }
def FnSetNatureStoresACopyUptoSaid : Prop := fnSetNatureStoresACopyUptoRow.holds Tryz.pinned (OpenSpec.upto fnSetNatureStoresACopySpec)

end Rows
end Go.Proofs.YthhijnemlhjpgaaGreat

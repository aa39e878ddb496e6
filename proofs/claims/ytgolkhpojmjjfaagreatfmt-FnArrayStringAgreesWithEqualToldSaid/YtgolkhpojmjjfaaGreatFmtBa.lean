/-
  What is proved here: small laws: how worlds follow one another; '==' between interface values of two types.
-/
import Derived.Test.YtgolkhpojmjjfaaGreatFmtRows
import Derived.WalkKit
import Derived.ProofKit
import Derived.OpenShut
import Derived.Handy
import Derived.Lib.Hide
import Derived.Laws.Externs
import Derived.Deep.DeepCutAuto
import Derived.Deep.RegionWith
namespace Go.Proofs.YtgolkhpojmjjfaaGreatFmt
open Go.ChangeShapes Go.WideShapes Go.ChangeAt Go.RowKit Go.Extern
set_option linter.unusedVariables false

theorem grown_trans {a b c : World} (h : Below a.heap.size a b) (g : Below b.heap.size b c) : Below a.heap.size a c :=
  h.trans (g.mono h.size)

/-- a contract in a grown world, its end told of the first world. -/
theorem absolve {f : FuncId} {args : Array Value} {W2 W : World} {v : Bool} (g : Below W2.heap.size W2 W) (h : Calls Tryz.prog f args W fun e w' => e = .returned (.bool v) ∧ Below W.heap.size W w') :
    Calls Tryz.prog f args W fun e w' => e = .returned (.bool v) ∧ Below W2.heap.size W2 w' :=
  h.mono fun _ _ ⟨he, hg⟩ => ⟨he, grown_trans g hg⟩

theorem teq (a b : TypeId) (h : (a == b) = false) (x y : Value) (w : World) (P : Program) (I : TypeId) (ms : Array (String × TypeId)) (hu : P.underlying I = some (.interface ms)) : (binOp .eql I (.iface a x) (.iface b y)).run P w = .ok (.bool false) w := by
  have hne : ¬ a = b := by simpa using h
  have h1 : ∀ d : Nat, (Op.equalIn (d + 1) I (.iface a x) (.iface b y)).run P w = .ok false w := fun d => by simp [Op.equalIn, run_underlying hu, hne]
  simp only [binOp]
  simp [Op.equal, Op.maxDepth, h1 9999]

end Go.Proofs.YtgolkhpojmjjfaaGreatFmt

/-
  What is proved here: types.TypeOf gives the descriptor of its argument's dynamic type, and Equal between descriptors is the equality of the two types' spellings; the world only grows. package reflect is answered by the model's own entries (the cut bears reflectrows).
-/
import Derived.Test.YtnpmgandmmlilaaGreatFmtRows
import Derived.WalkKit
import Derived.ProofKit
import Derived.OpenShut
import Derived.Handy
import Derived.Lib.Hide
import Derived.Laws.Externs
import Derived.Deep.DeepCutAuto
import Derived.Deep.RegionWith
namespace Go.Proofs.YtnpmgandmmlilaaGreatFmt
open Go.ChangeShapes Go.WideShapes Go.ChangeAt Go.RowKit Go.Extern
set_option linter.unusedVariables false

theorem grown_trans {a b c : World} (h : Below a.heap.size a b) (g : Below b.heap.size b c) : Below a.heap.size a c :=
  h.trans (g.mono h.size)

/-- a contract in a grown world, its end told of the first world. -/
theorem absolve {f : FuncId} {args : Array Value} {W2 W : World} {v : Bool} (g : Below W2.heap.size W2 W) (h : Calls Tryz.prog f args W fun e w' => e = .returned (.bool v) ∧ Below W.heap.size W w') :
    Calls Tryz.prog f args W fun e w' => e = .returned (.bool v) ∧ Below W2.heap.size W2 w' :=
  h.mono fun _ _ ⟨he, hg⟩ => ⟨he, grown_trans g hg⟩

theorem teq (a b : TypeId) (h : (a == b) = false) (x y : Value) (w : World) (P : Program) (I : TypeId) (ms : Array (String × TypeId)) (hu : P.underlying I = some (.interface ms)) : (binOp .eql I (.iface a x) (.iface b y)).run P w = .ok (.bool false) w := by
  have hne : ¬ a = b := by simpa using h
  have h1 : ∀ d : Nat, (Op.equalIn (d + 1) I (.iface a x) (.iface b y)).run P w = .ok false w := fun d => by simp [Op.equalIn, run_underlying hu, hne]
  simp only [binOp]
  simp [Op.equal, Op.maxDepth, h1 9999]

/-! ### the model's entries at work -/
theorem typeOf_run (t : Nat) (v : Value) (w : World) : (Extern.ReflectType.typeOf #[.iface t v]).run Tryz.prog w = .ok (.iface 77 (.pointer (some ⟨1, t, none⟩))) w := by kernel_rfl
theorem typeOf_call (t : Nat) (v : Value) (w : World) : (callFunc 41 #[.iface t v]).run Tryz.prog w = .ok (.value (.iface 77 (.pointer (some ⟨1, t, none⟩)))) w := by
  rw [@run_callFunc_extern Tryz.prog 41 _ Extern.ReflectType.typeOf Tryz.func41 (by kernel_rfl) (by kernel_rfl) (by kernel_rfl) (by kernel_rfl), typeOf_run]
  rfl

theorem typeOf_any (t : Nat) (v : Value) (w : World) :
    Calls Tryz.prog 18 #[.iface t v] w fun e w' => e = .returned (.iface 76 (.agg #[.iface 77 (.pointer (some ⟨1, t, none⟩))])) ∧ w = w' := by
  have h1 : ∀ (x : Value) (w : World), (binOp .eql 20 (.iface t x) .nilIface).run Tryz.prog w = .ok (.bool false) w := fun x w => by kernel_rfl
  have h2 := typeOf_call
  go_enter Tryz.func18, Tryz.ntmps18
  go_wp2
  go_ret
  exact ⟨rfl, rfl⟩

theorem typeOf_nil (w : World) :
    Calls Tryz.prog 18 #[.nilIface] w fun e w' => e = .returned (.iface 71 (.agg #[])) ∧ w = w' := by
  have h1 : ∀ (w : World), (binOp .eql 20 .nilIface .nilIface).run Tryz.prog w = .ok (.bool true) w := fun w => by kernel_rfl
  go_enter Tryz.func18, Tryz.ntmps18
  go_wp2
  go_ret
  exact ⟨rfl, rfl⟩
end Go.Proofs.YtnpmgandmmlilaaGreatFmt

/-
  What is proved here: Equal of types.rtype and of types.nilType against each kind of type, by contracts; the world only grows.
-/
import Derived.Test.YtnpmgandmmlilaaGreatFmtRt
namespace Go.Proofs.YtnpmgandmmlilaaGreatFmt
open Go.ChangeShapes Go.WideShapes Go.ChangeAt Go.RowKit Go.Extern
set_option linter.unusedVariables false

theorem invokeString (p : Value) (w : World) : (Go.method 805 77 p "String").run Tryz.prog w = .ok (146, p) w := by kernel_rfl

theorem ret_b {a b : Bool} (h : a = b) : Ending.returned (.bool a) = .returned (.bool b) := by rw [h]

theorem nilString (a : Addr) (w : World) : (nilAhead 805 77 (.pointer (some a)) "String").run Tryz.prog w = .ok (some false) w := by kernel_rfl

set_option maxRecDepth 100000 in
theorem rt_rt (a b : Nat) (sa sb : ByteArray) (r : Bool)
    (ha : ∀ w, (callFunc 146 #[.pointer (some ⟨1, a, none⟩)]).run Tryz.prog w = .ok (.value (.string sa)) w)
    (hb : ∀ w, (callFunc 146 #[.pointer (some ⟨1, b, none⟩)]).run Tryz.prog w = .ok (.value (.string sb)) w)
    (hr : (sa.toList == sb.toList) = r) (w : World) :
    Calls Tryz.prog 96 #[.agg #[.iface 77 (.pointer (some ⟨1, a, none⟩))], (.iface 76 (.agg #[.iface 77 (.pointer (some ⟨1, b, none⟩))]))] w fun e w' => e = .returned (.bool r) ∧ Below w.heap.size w w' := by
  have h1 : ∀ (x y : Value) (w : World), (binOp .eql 38 (.iface 76 x) (.iface 69 y)).run Tryz.prog w = .ok (.bool false) w := fun x y w => teq _ _ rfl _ _ _ _ _ _ Tryz.underlying38
  have h2 : ∀ (v : Value) (w : World), (Instr.typeAssert (.iface 76 v) 38 76 true).run Tryz.prog w = .ok (.tuple #[v, .bool true]) w := fun v w => by kernel_rfl
  have h3 := invokeString
  go_enter Tryz.func96, Tryz.ntmps96
  go_wp2
  have h5 := nilString
  go_region_with fail
  all_goals go_wp2
  all_goals go_ret
  all_goals exact ⟨rfl, by go_grown⟩

set_option maxRecDepth 100000 in
theorem rt_nil (a : Nat) (w : World) :
    Calls Tryz.prog 96 #[.agg #[.iface 77 (.pointer (some ⟨1, a, none⟩))], .iface 71 (.agg #[])] w fun e w' => e = .returned (.bool false) ∧ Below w.heap.size w w' := by
  have h1 : ∀ (x y : Value) (w : World), (binOp .eql 38 (.iface 71 x) (.iface 69 y)).run Tryz.prog w = .ok (.bool false) w := fun x y w => teq _ _ rfl _ _ _ _ _ _ Tryz.underlying38
  have h2 : ∀ (v : Value) (w : World), (Instr.typeAssert (.iface 71 v) 38 76 true).run Tryz.prog w = .ok (.tuple #[.agg #[.nilIface], .bool false]) w := fun v w => by kernel_rfl
  go_enter Tryz.func96, Tryz.ntmps96
  go_wp2
  go_ret
  exact ⟨rfl, by go_grown⟩

set_option maxRecDepth 100000 in
theorem nil_rt (a : Nat) (w : World) :
    Calls Tryz.prog 42 #[.agg #[], (.iface 76 (.agg #[.iface 77 (.pointer (some ⟨1, a, none⟩))]))] w fun e w' => e = .returned (.bool false) ∧ Below w.heap.size w w' := by
  have h1 : ∀ (x y : Value) (w : World), (binOp .eql 38 (.iface 76 x) (.iface 69 y)).run Tryz.prog w = .ok (.bool false) w := fun x y w => teq _ _ rfl _ _ _ _ _ _ Tryz.underlying38
  have h2 : ∀ (x y : Value) (w : World), (binOp .eql 38 (.iface 76 x) (.iface 71 y)).run Tryz.prog w = .ok (.bool false) w := fun x y w => teq _ _ rfl _ _ _ _ _ _ Tryz.underlying38
  go_enter Tryz.func42, Tryz.ntmps42
  go_wp2
  go_ret
  exact ⟨rfl, by go_grown⟩

set_option maxRecDepth 100000 in
theorem nil_nil (w : World) :
    Calls Tryz.prog 42 #[.agg #[], .iface 71 (.agg #[])] w fun e w' => e = .returned (.bool true) ∧ Below w.heap.size w w' := by
  have h1 : ∀ (x y : Value) (w : World), (binOp .eql 38 (.iface 71 x) (.iface 69 y)).run Tryz.prog w = .ok (.bool false) w := fun x y w => teq _ _ rfl _ _ _ _ _ _ Tryz.underlying38
  have h2 : ∀ (w : World), (binOp .eql 38 (.iface 71 (.agg #[])) (.iface 71 (.agg #[]))).run Tryz.prog w = .ok (.bool true) w := fun w => by kernel_rfl
  go_enter Tryz.func42, Tryz.ntmps42
  go_wp2
  go_ret
  exact ⟨rfl, by go_grown⟩

/-! ### the spellings -/
theorem str_int (w : World) : (callFunc 146 #[.pointer (some ⟨1, 3, none⟩)]).run Tryz.prog w = .ok (.value (.string ⟨#[105, 110, 116]⟩)) w := by kernel_rfl
theorem str_int64 (w : World) : (callFunc 146 #[.pointer (some ⟨1, 2, none⟩)]).run Tryz.prog w = .ok (.value (.string ⟨#[105, 110, 116, 54, 52]⟩)) w := by kernel_rfl
theorem str_string (w : World) : (callFunc 146 #[.pointer (some ⟨1, 9, none⟩)]).run Tryz.prog w = .ok (.value (.string ⟨#[115, 116, 114, 105, 110, 103]⟩)) w := by kernel_rfl
end Go.Proofs.YtnpmgandmmlilaaGreatFmt

/-
  What is proved here: Equal of types.rtype and of types.nilType against each kind of type, by contracts; the world only grows.
-/
import Derived.Test.YtekeabboapoljaaGreatRt
namespace Go.Proofs.YtekeabboapoljaaGreat
open Go.ChangeShapes Go.WideShapes Go.ChangeAt Go.RowKit Go.Extern
set_option linter.unusedVariables false

theorem invokeString (p : Value) (w : World) : (Go.method 770 48 p "String").run Tryz.prog w = .ok (94, p) w := by kernel_rfl

theorem ret_b {a b : Bool} (h : a = b) : Ending.returned (.bool a) = .returned (.bool b) := by rw [h]

theorem nilString (a : Addr) (w : World) : (nilAhead 770 48 (.pointer (some a)) "String").run Tryz.prog w = .ok (some false) w := by kernel_rfl

set_option maxRecDepth 100000 in
theorem rt_rt (a b : Nat) (sa sb : ByteArray) (r : Bool)
    (ha : ∀ w, (callFunc 94 #[.pointer (some ⟨0, a, none⟩)]).run Tryz.prog w = .ok (.value (.string sa)) w)
    (hb : ∀ w, (callFunc 94 #[.pointer (some ⟨0, b, none⟩)]).run Tryz.prog w = .ok (.value (.string sb)) w)
    (hr : (sa.toList == sb.toList) = r) (w : World) :
    Calls Tryz.prog 53 #[.agg #[.iface 48 (.pointer (some ⟨0, a, none⟩))], (.iface 47 (.agg #[.iface 48 (.pointer (some ⟨0, b, none⟩))]))] w fun e w' => e = .returned (.bool r) ∧ Grown w w' := by
  have h1 : ∀ (x y : Value) (w : World), (binOp .eql 38 (.iface 47 x) (.iface 91 y)).run Tryz.prog w = .ok (.bool false) w := fun x y w => teq _ _ rfl _ _ _ _ _ _ Tryz.underlying38
  have h2 : ∀ (v : Value) (w : World), (Instr.typeAssert (.iface 47 v) 38 47 true).run Tryz.prog w = .ok (.tuple #[v, .bool true]) w := fun v w => by kernel_rfl
  have h3 := invokeString
  go_enter Tryz.func53, Tryz.ntmps53
  go_wp2
  have h5 := nilString
  go_region_with fail
  all_goals go_wp2
  all_goals go_ret
  all_goals exact ⟨rfl, by go_grown⟩

set_option maxRecDepth 100000 in
theorem rt_nil (a : Nat) (w : World) :
    Calls Tryz.prog 53 #[.agg #[.iface 48 (.pointer (some ⟨0, a, none⟩))], .iface 42 (.agg #[])] w fun e w' => e = .returned (.bool false) ∧ Grown w w' := by
  have h1 : ∀ (x y : Value) (w : World), (binOp .eql 38 (.iface 42 x) (.iface 91 y)).run Tryz.prog w = .ok (.bool false) w := fun x y w => teq _ _ rfl _ _ _ _ _ _ Tryz.underlying38
  have h2 : ∀ (v : Value) (w : World), (Instr.typeAssert (.iface 42 v) 38 47 true).run Tryz.prog w = .ok (.tuple #[.agg #[.nilIface], .bool false]) w := fun v w => by kernel_rfl
  go_enter Tryz.func53, Tryz.ntmps53
  go_wp2
  go_ret
  exact ⟨rfl, by go_grown⟩

set_option maxRecDepth 100000 in
theorem nil_rt (a : Nat) (w : World) :
    Calls Tryz.prog 50 #[.agg #[], (.iface 47 (.agg #[.iface 48 (.pointer (some ⟨0, a, none⟩))]))] w fun e w' => e = .returned (.bool false) ∧ Grown w w' := by
  have h1 : ∀ (x y : Value) (w : World), (binOp .eql 38 (.iface 47 x) (.iface 91 y)).run Tryz.prog w = .ok (.bool false) w := fun x y w => teq _ _ rfl _ _ _ _ _ _ Tryz.underlying38
  have h2 : ∀ (x y : Value) (w : World), (binOp .eql 38 (.iface 47 x) (.iface 42 y)).run Tryz.prog w = .ok (.bool false) w := fun x y w => teq _ _ rfl _ _ _ _ _ _ Tryz.underlying38
  go_enter Tryz.func50, Tryz.ntmps50
  go_wp2
  go_ret
  exact ⟨rfl, by go_grown⟩

set_option maxRecDepth 100000 in
theorem nil_nil (w : World) :
    Calls Tryz.prog 50 #[.agg #[], .iface 42 (.agg #[])] w fun e w' => e = .returned (.bool true) ∧ Grown w w' := by
  have h1 : ∀ (x y : Value) (w : World), (binOp .eql 38 (.iface 42 x) (.iface 91 y)).run Tryz.prog w = .ok (.bool false) w := fun x y w => teq _ _ rfl _ _ _ _ _ _ Tryz.underlying38
  have h2 : ∀ (w : World), (binOp .eql 38 (.iface 42 (.agg #[])) (.iface 42 (.agg #[]))).run Tryz.prog w = .ok (.bool true) w := fun w => by kernel_rfl
  go_enter Tryz.func50, Tryz.ntmps50
  go_wp2
  go_ret
  exact ⟨rfl, by go_grown⟩

/-! ### the spellings -/
theorem str_int (w : World) : (callFunc 94 #[.pointer (some ⟨0, 3, none⟩)]).run Tryz.prog w = .ok (.value (.string ⟨#[105, 110, 116]⟩)) w := by kernel_rfl
theorem str_int64 (w : World) : (callFunc 94 #[.pointer (some ⟨0, 2, none⟩)]).run Tryz.prog w = .ok (.value (.string ⟨#[105, 110, 116, 54, 52]⟩)) w := by kernel_rfl
theorem str_string (w : World) : (callFunc 94 #[.pointer (some ⟨0, 9, none⟩)]).run Tryz.prog w = .ok (.value (.string ⟨#[115, 116, 114, 105, 110, 103]⟩)) w := by kernel_rfl
end Go.Proofs.YtekeabboapoljaaGreat

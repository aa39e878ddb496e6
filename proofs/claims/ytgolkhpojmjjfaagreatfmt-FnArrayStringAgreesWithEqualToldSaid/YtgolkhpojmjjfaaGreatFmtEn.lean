/-
  What is proved here: Equal of each of the four kinds of types.Type against each kind of type and against the nil interface, where the kinds alone decide it, by contracts; the world only grows.
-/
import Derived.Test.YtgolkhpojmjjfaaGreatFmtBa
namespace Go.Proofs.YtgolkhpojmjjfaaGreatFmt
open Go.ChangeShapes Go.WideShapes Go.ChangeAt Go.RowKit Go.Extern
set_option linter.unusedVariables false

/-! ### '==' at types.Type, and the type assertions -/
theorem q_any_any (w : World) : (binOp .eql 37 (.iface 47 (.agg #[])) (.iface 47 (.agg #[]))).run Tryz.prog w = .ok (.bool true) w := by kernel_rfl
theorem q_any_nil (x y : Value) (w : World) : (binOp .eql 37 (.iface 47 x) (.iface 48 y)).run Tryz.prog w = .ok (.bool false) w := teq _ _ rfl _ _ _ _ _ _ Tryz.underlying37
theorem q_nil_any (x y : Value) (w : World) : (binOp .eql 37 (.iface 48 x) (.iface 47 y)).run Tryz.prog w = .ok (.bool false) w := teq _ _ rfl _ _ _ _ _ _ Tryz.underlying37
theorem q_nil_nil (w : World) : (binOp .eql 37 (.iface 48 (.agg #[])) (.iface 48 (.agg #[]))).run Tryz.prog w = .ok (.bool true) w := by kernel_rfl
theorem q_map_any (x y : Value) (w : World) : (binOp .eql 37 (.iface 50 x) (.iface 47 y)).run Tryz.prog w = .ok (.bool false) w := teq _ _ rfl _ _ _ _ _ _ Tryz.underlying37
theorem q_map_nil (x y : Value) (w : World) : (binOp .eql 37 (.iface 50 x) (.iface 48 y)).run Tryz.prog w = .ok (.bool false) w := teq _ _ rfl _ _ _ _ _ _ Tryz.underlying37
theorem q_arr_any (x y : Value) (w : World) : (binOp .eql 37 (.iface 52 x) (.iface 47 y)).run Tryz.prog w = .ok (.bool false) w := teq _ _ rfl _ _ _ _ _ _ Tryz.underlying37
theorem q_arr_nil (x y : Value) (w : World) : (binOp .eql 37 (.iface 52 x) (.iface 48 y)).run Tryz.prog w = .ok (.bool false) w := teq _ _ rfl _ _ _ _ _ _ Tryz.underlying37
theorem q_none_any (y : Value) (w : World) : (binOp .eql 37 .nilIface (.iface 47 y)).run Tryz.prog w = .ok (.bool false) w := by kernel_rfl
theorem q_none_nil (y : Value) (w : World) : (binOp .eql 37 .nilIface (.iface 48 y)).run Tryz.prog w = .ok (.bool false) w := by kernel_rfl
theorem as_any_map (v : Value) (w : World) : (Instr.typeAssert (.iface 47 v) 37 50 true).run Tryz.prog w = .ok (.tuple #[.map none, .bool false]) w := by kernel_rfl
theorem as_nil_map (v : Value) (w : World) : (Instr.typeAssert (.iface 48 v) 37 50 true).run Tryz.prog w = .ok (.tuple #[.map none, .bool false]) w := by kernel_rfl
theorem as_map_map (v : Value) (w : World) : (Instr.typeAssert (.iface 50 v) 37 50 true).run Tryz.prog w = .ok (.tuple #[v, .bool true]) w := by kernel_rfl
theorem as_arr_map (v : Value) (w : World) : (Instr.typeAssert (.iface 52 v) 37 50 true).run Tryz.prog w = .ok (.tuple #[.map none, .bool false]) w := by kernel_rfl
theorem as_none_map (w : World) : (Instr.typeAssert .nilIface 37 50 true).run Tryz.prog w = .ok (.tuple #[.map none, .bool false]) w := by kernel_rfl
theorem as_any_arr (v : Value) (w : World) : (Instr.typeAssert (.iface 47 v) 37 52 true).run Tryz.prog w = .ok (.tuple #[.agg #[.nilIface], .bool false]) w := by kernel_rfl
theorem as_nil_arr (v : Value) (w : World) : (Instr.typeAssert (.iface 48 v) 37 52 true).run Tryz.prog w = .ok (.tuple #[.agg #[.nilIface], .bool false]) w := by kernel_rfl
theorem as_map_arr (v : Value) (w : World) : (Instr.typeAssert (.iface 50 v) 37 52 true).run Tryz.prog w = .ok (.tuple #[.agg #[.nilIface], .bool false]) w := by kernel_rfl
theorem as_arr_arr (v : Value) (w : World) : (Instr.typeAssert (.iface 52 v) 37 52 true).run Tryz.prog w = .ok (.tuple #[v, .bool true]) w := by kernel_rfl
theorem as_none_arr (w : World) : (Instr.typeAssert .nilIface 37 52 true).run Tryz.prog w = .ok (.tuple #[.agg #[.nilIface], .bool false]) w := by kernel_rfl

/-! ### the contracts -/
theorem e_any (y : Value) (w : World) : Calls Tryz.prog 50 #[.agg #[], y] w fun e w' => e = .returned (.bool true) ∧ Below w.heap.size w w' := by
  go_enter Tryz.func50, Tryz.ntmps50
  go_wp2
  go_ret
  exact ⟨rfl, by go_grown⟩

set_option maxRecDepth 100000 in
theorem e_nil_any (w : World) : Calls Tryz.prog 53 #[.agg #[], .iface 47 (.agg #[])] w fun e w' => e = .returned (.bool true) ∧ Below w.heap.size w w' := by
  have h1 := q_any_any
  go_enter Tryz.func53, Tryz.ntmps53
  go_wp2
  go_ret
  exact ⟨rfl, by go_grown⟩

set_option maxRecDepth 100000 in
theorem e_nil_nil (w : World) : Calls Tryz.prog 53 #[.agg #[], .iface 48 (.agg #[])] w fun e w' => e = .returned (.bool true) ∧ Below w.heap.size w w' := by
  have h1 := q_nil_any
  have h2 := q_nil_nil
  go_enter Tryz.func53, Tryz.ntmps53
  go_wp2
  go_ret
  exact ⟨rfl, by go_grown⟩

set_option maxRecDepth 100000 in
theorem e_nil_map (x : Value) (w : World) : Calls Tryz.prog 53 #[.agg #[], .iface 50 (x)] w fun e w' => e = .returned (.bool false) ∧ Below w.heap.size w w' := by
  have h1 := q_map_any
  have h2 := q_map_nil
  go_enter Tryz.func53, Tryz.ntmps53
  go_wp2
  go_ret
  exact ⟨rfl, by go_grown⟩

set_option maxRecDepth 100000 in
theorem e_nil_arr (x : Value) (w : World) : Calls Tryz.prog 53 #[.agg #[], .iface 52 (x)] w fun e w' => e = .returned (.bool false) ∧ Below w.heap.size w w' := by
  have h1 := q_arr_any
  have h2 := q_arr_nil
  go_enter Tryz.func53, Tryz.ntmps53
  go_wp2
  go_ret
  exact ⟨rfl, by go_grown⟩

set_option maxRecDepth 100000 in
theorem e_map_any (m : Value) (w : World) : Calls Tryz.prog 56 #[m, .iface 47 (.agg #[])] w fun e w' => e = .returned (.bool true) ∧ Below w.heap.size w w' := by
  have h1 := q_any_any
  go_enter Tryz.func56, Tryz.ntmps56
  go_wp2
  go_ret
  exact ⟨rfl, by go_grown⟩

set_option maxRecDepth 100000 in
theorem e_map_nil (m : Value) (w : World) : Calls Tryz.prog 56 #[m, .iface 48 (.agg #[])] w fun e w' => e = .returned (.bool false) ∧ Below w.heap.size w w' := by
  have h1 := q_nil_any
  have h2 := as_nil_map
  go_enter Tryz.func56, Tryz.ntmps56
  go_wp2
  go_ret
  exact ⟨rfl, by go_grown⟩

set_option maxRecDepth 100000 in
theorem e_map_arr (m : Value) (x : Value) (w : World) : Calls Tryz.prog 56 #[m, .iface 52 (x)] w fun e w' => e = .returned (.bool false) ∧ Below w.heap.size w w' := by
  have h1 := q_arr_any
  have h2 := as_arr_map
  go_enter Tryz.func56, Tryz.ntmps56
  go_wp2
  go_ret
  exact ⟨rfl, by go_grown⟩

set_option maxRecDepth 100000 in
theorem e_arr_any (m : Value) (w : World) : Calls Tryz.prog 68 #[.agg #[m], .iface 47 (.agg #[])] w fun e w' => e = .returned (.bool true) ∧ Below w.heap.size w w' := by
  have h1 := q_any_any
  go_enter Tryz.func68, Tryz.ntmps68
  go_wp2
  go_ret
  exact ⟨rfl, by go_grown⟩

set_option maxRecDepth 100000 in
theorem e_arr_nil (m : Value) (w : World) : Calls Tryz.prog 68 #[.agg #[m], .iface 48 (.agg #[])] w fun e w' => e = .returned (.bool false) ∧ Below w.heap.size w w' := by
  have h1 := q_nil_any
  have h2 := as_nil_arr
  go_enter Tryz.func68, Tryz.ntmps68
  go_wp2
  go_ret
  exact ⟨rfl, by go_grown⟩

set_option maxRecDepth 100000 in
theorem e_arr_map (m : Value) (x : Value) (w : World) : Calls Tryz.prog 68 #[.agg #[m], .iface 50 (x)] w fun e w' => e = .returned (.bool false) ∧ Below w.heap.size w w' := by
  have h1 := q_map_any
  have h2 := as_map_arr
  go_enter Tryz.func68, Tryz.ntmps68
  go_wp2
  go_ret
  exact ⟨rfl, by go_grown⟩

/-! ### array against array: by what Equal of the elements gives -/
set_option maxRecDepth 100000 in
theorem s_any (x y : Value) (ty : TypeId) (res : Bool) (w : World) (h : ∀ w1, Below w.heap.size w w1 → Calls Tryz.prog 50 #[x, .iface ty y] w1 fun e w' => e = .returned (.bool res) ∧ Below w1.heap.size w1 w') :
    Calls Tryz.prog 68 #[.agg #[.iface 47 x], .iface 52 (.agg #[.iface ty y])] w fun e w' => e = .returned (.bool res) ∧ Below w.heap.size w w' := by
  have H := Lib.hid h; clear h
  have h1 := q_arr_any
  have h2 := as_arr_arr
  cases res
  all_goals
    go_enter Tryz.func68, Tryz.ntmps68
    go_wp2_with (go_at_call 50; refine (H.out _ (by go_grown)).mono ?_; rintro e w1 ⟨rfl, hg⟩)
    go_ret
    exact ⟨rfl, grown_trans (by go_grown) hg⟩

set_option maxRecDepth 100000 in
theorem s_nil (x y : Value) (ty : TypeId) (res : Bool) (w : World) (h : ∀ w1, Below w.heap.size w w1 → Calls Tryz.prog 53 #[x, .iface ty y] w1 fun e w' => e = .returned (.bool res) ∧ Below w1.heap.size w1 w') :
    Calls Tryz.prog 68 #[.agg #[.iface 48 x], .iface 52 (.agg #[.iface ty y])] w fun e w' => e = .returned (.bool res) ∧ Below w.heap.size w w' := by
  have H := Lib.hid h; clear h
  have h1 := q_arr_any
  have h2 := as_arr_arr
  cases res
  all_goals
    go_enter Tryz.func68, Tryz.ntmps68
    go_wp2_with (go_at_call 53; refine (H.out _ (by go_grown)).mono ?_; rintro e w1 ⟨rfl, hg⟩)
    go_ret
    exact ⟨rfl, grown_trans (by go_grown) hg⟩

set_option maxRecDepth 100000 in
theorem s_map (x y : Value) (ty : TypeId) (res : Bool) (w : World) (h : ∀ w1, Below w.heap.size w w1 → Calls Tryz.prog 56 #[x, .iface ty y] w1 fun e w' => e = .returned (.bool res) ∧ Below w1.heap.size w1 w') :
    Calls Tryz.prog 68 #[.agg #[.iface 50 x], .iface 52 (.agg #[.iface ty y])] w fun e w' => e = .returned (.bool res) ∧ Below w.heap.size w w' := by
  have H := Lib.hid h; clear h
  have h1 := q_arr_any
  have h2 := as_arr_arr
  cases res
  all_goals
    go_enter Tryz.func68, Tryz.ntmps68
    go_wp2_with (go_at_call 56; refine (H.out _ (by go_grown)).mono ?_; rintro e w1 ⟨rfl, hg⟩)
    go_ret
    exact ⟨rfl, grown_trans (by go_grown) hg⟩

set_option maxRecDepth 100000 in
theorem s_arr (x y : Value) (ty : TypeId) (res : Bool) (w : World) (h : ∀ w1, Below w.heap.size w w1 → Calls Tryz.prog 68 #[x, .iface ty y] w1 fun e w' => e = .returned (.bool res) ∧ Below w1.heap.size w1 w') :
    Calls Tryz.prog 68 #[.agg #[.iface 52 x], .iface 52 (.agg #[.iface ty y])] w fun e w' => e = .returned (.bool res) ∧ Below w.heap.size w w' := by
  have H := Lib.hid h; clear h
  have h1 := q_arr_any
  have h2 := as_arr_arr
  cases res
  all_goals
    go_enter Tryz.func68, Tryz.ntmps68
    go_wp2_with (go_at_call 68; refine (H.out _ (by go_grown)).mono ?_; rintro e w1 ⟨rfl, hg⟩)
    go_ret
    exact ⟨rfl, grown_trans (by go_grown) hg⟩

theorem bel_of {a b c : World} (h : Below a.heap.size a b) (g : Below b.heap.size b c) : Below a.heap.size a c := grown_trans h g
end Go.Proofs.YtgolkhpojmjjfaaGreatFmt

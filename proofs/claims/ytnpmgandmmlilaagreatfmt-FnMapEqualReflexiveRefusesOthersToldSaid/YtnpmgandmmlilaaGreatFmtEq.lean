/-
  What is proved here: Equal of each of the five kinds of types.Type against each kind of type and against the nil interface, where the kinds alone decide it, by contracts; the world only grows.
-/
import Derived.Test.YtnpmgandmmlilaaGreatFmtRe
namespace Go.Proofs.YtnpmgandmmlilaaGreatFmt
open Go.ChangeShapes Go.WideShapes Go.ChangeAt Go.RowKit Go.Extern
set_option linter.unusedVariables false

/-! ### '==' at types.Type, and the type assertions -/
theorem q_any_any (w : World) : (binOp .eql 38 (.iface 69 (.agg #[])) (.iface 69 (.agg #[]))).run Tryz.prog w = .ok (.bool true) w := by kernel_rfl
theorem q_any_nil (x y : Value) (w : World) : (binOp .eql 38 (.iface 69 x) (.iface 71 y)).run Tryz.prog w = .ok (.bool false) w := teq _ _ rfl _ _ _ _ _ _ Tryz.underlying38
theorem q_nil_any (x y : Value) (w : World) : (binOp .eql 38 (.iface 71 x) (.iface 69 y)).run Tryz.prog w = .ok (.bool false) w := teq _ _ rfl _ _ _ _ _ _ Tryz.underlying38
theorem q_nil_nil (w : World) : (binOp .eql 38 (.iface 71 (.agg #[])) (.iface 71 (.agg #[]))).run Tryz.prog w = .ok (.bool true) w := by kernel_rfl
theorem q_rt_any (x y : Value) (w : World) : (binOp .eql 38 (.iface 76 x) (.iface 69 y)).run Tryz.prog w = .ok (.bool false) w := teq _ _ rfl _ _ _ _ _ _ Tryz.underlying38
theorem q_rt_nil (x y : Value) (w : World) : (binOp .eql 38 (.iface 76 x) (.iface 71 y)).run Tryz.prog w = .ok (.bool false) w := teq _ _ rfl _ _ _ _ _ _ Tryz.underlying38
theorem q_map_any (x y : Value) (w : World) : (binOp .eql 38 (.iface 41 x) (.iface 69 y)).run Tryz.prog w = .ok (.bool false) w := teq _ _ rfl _ _ _ _ _ _ Tryz.underlying38
theorem q_map_nil (x y : Value) (w : World) : (binOp .eql 38 (.iface 41 x) (.iface 71 y)).run Tryz.prog w = .ok (.bool false) w := teq _ _ rfl _ _ _ _ _ _ Tryz.underlying38
theorem q_arr_any (x y : Value) (w : World) : (binOp .eql 38 (.iface 67 x) (.iface 69 y)).run Tryz.prog w = .ok (.bool false) w := teq _ _ rfl _ _ _ _ _ _ Tryz.underlying38
theorem q_arr_nil (x y : Value) (w : World) : (binOp .eql 38 (.iface 67 x) (.iface 71 y)).run Tryz.prog w = .ok (.bool false) w := teq _ _ rfl _ _ _ _ _ _ Tryz.underlying38
theorem q_none_any (y : Value) (w : World) : (binOp .eql 38 .nilIface (.iface 69 y)).run Tryz.prog w = .ok (.bool false) w := by kernel_rfl
theorem q_none_nil (y : Value) (w : World) : (binOp .eql 38 .nilIface (.iface 71 y)).run Tryz.prog w = .ok (.bool false) w := by kernel_rfl
theorem as_any_rt (v : Value) (w : World) : (Instr.typeAssert (.iface 69 v) 38 76 true).run Tryz.prog w = .ok (.tuple #[.agg #[.nilIface], .bool false]) w := by kernel_rfl
theorem as_nil_rt (v : Value) (w : World) : (Instr.typeAssert (.iface 71 v) 38 76 true).run Tryz.prog w = .ok (.tuple #[.agg #[.nilIface], .bool false]) w := by kernel_rfl
theorem as_rt_rt (v : Value) (w : World) : (Instr.typeAssert (.iface 76 v) 38 76 true).run Tryz.prog w = .ok (.tuple #[v, .bool true]) w := by kernel_rfl
theorem as_map_rt (v : Value) (w : World) : (Instr.typeAssert (.iface 41 v) 38 76 true).run Tryz.prog w = .ok (.tuple #[.agg #[.nilIface], .bool false]) w := by kernel_rfl
theorem as_arr_rt (v : Value) (w : World) : (Instr.typeAssert (.iface 67 v) 38 76 true).run Tryz.prog w = .ok (.tuple #[.agg #[.nilIface], .bool false]) w := by kernel_rfl
theorem as_none_rt (w : World) : (Instr.typeAssert .nilIface 38 76 true).run Tryz.prog w = .ok (.tuple #[.agg #[.nilIface], .bool false]) w := by kernel_rfl
theorem as_any_map (v : Value) (w : World) : (Instr.typeAssert (.iface 69 v) 38 41 true).run Tryz.prog w = .ok (.tuple #[.map none, .bool false]) w := by kernel_rfl
theorem as_nil_map (v : Value) (w : World) : (Instr.typeAssert (.iface 71 v) 38 41 true).run Tryz.prog w = .ok (.tuple #[.map none, .bool false]) w := by kernel_rfl
theorem as_rt_map (v : Value) (w : World) : (Instr.typeAssert (.iface 76 v) 38 41 true).run Tryz.prog w = .ok (.tuple #[.map none, .bool false]) w := by kernel_rfl
theorem as_map_map (v : Value) (w : World) : (Instr.typeAssert (.iface 41 v) 38 41 true).run Tryz.prog w = .ok (.tuple #[v, .bool true]) w := by kernel_rfl
theorem as_arr_map (v : Value) (w : World) : (Instr.typeAssert (.iface 67 v) 38 41 true).run Tryz.prog w = .ok (.tuple #[.map none, .bool false]) w := by kernel_rfl
theorem as_none_map (w : World) : (Instr.typeAssert .nilIface 38 41 true).run Tryz.prog w = .ok (.tuple #[.map none, .bool false]) w := by kernel_rfl
theorem as_any_arr (v : Value) (w : World) : (Instr.typeAssert (.iface 69 v) 38 67 true).run Tryz.prog w = .ok (.tuple #[.agg #[.nilIface], .bool false]) w := by kernel_rfl
theorem as_nil_arr (v : Value) (w : World) : (Instr.typeAssert (.iface 71 v) 38 67 true).run Tryz.prog w = .ok (.tuple #[.agg #[.nilIface], .bool false]) w := by kernel_rfl
theorem as_rt_arr (v : Value) (w : World) : (Instr.typeAssert (.iface 76 v) 38 67 true).run Tryz.prog w = .ok (.tuple #[.agg #[.nilIface], .bool false]) w := by kernel_rfl
theorem as_map_arr (v : Value) (w : World) : (Instr.typeAssert (.iface 41 v) 38 67 true).run Tryz.prog w = .ok (.tuple #[.agg #[.nilIface], .bool false]) w := by kernel_rfl
theorem as_arr_arr (v : Value) (w : World) : (Instr.typeAssert (.iface 67 v) 38 67 true).run Tryz.prog w = .ok (.tuple #[v, .bool true]) w := by kernel_rfl
theorem as_none_arr (w : World) : (Instr.typeAssert .nilIface 38 67 true).run Tryz.prog w = .ok (.tuple #[.agg #[.nilIface], .bool false]) w := by kernel_rfl

/-! ### the contracts -/
theorem e_any (y : Value) (w : World) : Calls Tryz.prog 43 #[.agg #[], y] w fun e w' => e = .returned (.bool true) ∧ Below w.heap.size w w' := by
  go_enter Tryz.func43, Tryz.ntmps43
  go_wp2
  go_ret
  exact ⟨rfl, by go_grown⟩

set_option maxRecDepth 100000 in
theorem e_nil_any (w : World) : Calls Tryz.prog 42 #[.agg #[], .iface 69 (.agg #[])] w fun e w' => e = .returned (.bool true) ∧ Below w.heap.size w w' := by
  have h1 := q_any_any
  go_enter Tryz.func42, Tryz.ntmps42
  go_wp2
  go_ret
  exact ⟨rfl, by go_grown⟩

set_option maxRecDepth 100000 in
theorem e_nil_nil (w : World) : Calls Tryz.prog 42 #[.agg #[], .iface 71 (.agg #[])] w fun e w' => e = .returned (.bool true) ∧ Below w.heap.size w w' := by
  have h1 := q_nil_any
  have h2 := q_nil_nil
  go_enter Tryz.func42, Tryz.ntmps42
  go_wp2
  go_ret
  exact ⟨rfl, by go_grown⟩

set_option maxRecDepth 100000 in
theorem e_nil_rt (x : Value) (w : World) : Calls Tryz.prog 42 #[.agg #[], .iface 76 (x)] w fun e w' => e = .returned (.bool false) ∧ Below w.heap.size w w' := by
  have h1 := q_rt_any
  have h2 := q_rt_nil
  go_enter Tryz.func42, Tryz.ntmps42
  go_wp2
  go_ret
  exact ⟨rfl, by go_grown⟩

set_option maxRecDepth 100000 in
theorem e_nil_map (x : Value) (w : World) : Calls Tryz.prog 42 #[.agg #[], .iface 41 (x)] w fun e w' => e = .returned (.bool false) ∧ Below w.heap.size w w' := by
  have h1 := q_map_any
  have h2 := q_map_nil
  go_enter Tryz.func42, Tryz.ntmps42
  go_wp2
  go_ret
  exact ⟨rfl, by go_grown⟩

set_option maxRecDepth 100000 in
theorem e_nil_arr (x : Value) (w : World) : Calls Tryz.prog 42 #[.agg #[], .iface 67 (x)] w fun e w' => e = .returned (.bool false) ∧ Below w.heap.size w w' := by
  have h1 := q_arr_any
  have h2 := q_arr_nil
  go_enter Tryz.func42, Tryz.ntmps42
  go_wp2
  go_ret
  exact ⟨rfl, by go_grown⟩

set_option maxRecDepth 100000 in
theorem e_nil_none (w : World) : Calls Tryz.prog 42 #[.agg #[], .nilIface] w fun e w' => e = .returned (.bool false) ∧ Below w.heap.size w w' := by
  have h1 := q_none_any
  have h2 := q_none_nil
  go_enter Tryz.func42, Tryz.ntmps42
  go_wp2
  go_ret
  exact ⟨rfl, by go_grown⟩

set_option maxRecDepth 100000 in
theorem e_rt_any (m : Value) (w : World) : Calls Tryz.prog 96 #[.agg #[m], .iface 69 (.agg #[])] w fun e w' => e = .returned (.bool true) ∧ Below w.heap.size w w' := by
  have h1 := q_any_any
  go_enter Tryz.func96, Tryz.ntmps96
  go_wp2
  go_ret
  exact ⟨rfl, by go_grown⟩

set_option maxRecDepth 100000 in
theorem e_rt_nil (m : Value) (w : World) : Calls Tryz.prog 96 #[.agg #[m], .iface 71 (.agg #[])] w fun e w' => e = .returned (.bool false) ∧ Below w.heap.size w w' := by
  have h1 := q_nil_any
  have h2 := as_nil_rt
  go_enter Tryz.func96, Tryz.ntmps96
  go_wp2
  go_ret
  exact ⟨rfl, by go_grown⟩

set_option maxRecDepth 100000 in
theorem e_rt_map (m : Value) (x : Value) (w : World) : Calls Tryz.prog 96 #[.agg #[m], .iface 41 (x)] w fun e w' => e = .returned (.bool false) ∧ Below w.heap.size w w' := by
  have h1 := q_map_any
  have h2 := as_map_rt
  go_enter Tryz.func96, Tryz.ntmps96
  go_wp2
  go_ret
  exact ⟨rfl, by go_grown⟩

set_option maxRecDepth 100000 in
theorem e_rt_arr (m : Value) (x : Value) (w : World) : Calls Tryz.prog 96 #[.agg #[m], .iface 67 (x)] w fun e w' => e = .returned (.bool false) ∧ Below w.heap.size w w' := by
  have h1 := q_arr_any
  have h2 := as_arr_rt
  go_enter Tryz.func96, Tryz.ntmps96
  go_wp2
  go_ret
  exact ⟨rfl, by go_grown⟩

set_option maxRecDepth 100000 in
theorem e_rt_none (m : Value) (w : World) : Calls Tryz.prog 96 #[.agg #[m], .nilIface] w fun e w' => e = .returned (.bool false) ∧ Below w.heap.size w w' := by
  have h1 := q_none_any
  have h2 := as_none_rt
  go_enter Tryz.func96, Tryz.ntmps96
  go_wp2
  go_ret
  exact ⟨rfl, by go_grown⟩

set_option maxRecDepth 100000 in
theorem e_map_any (m : Value) (w : World) : Calls Tryz.prog 16 #[m, .iface 69 (.agg #[])] w fun e w' => e = .returned (.bool true) ∧ Below w.heap.size w w' := by
  have h1 := q_any_any
  go_enter Tryz.func16, Tryz.ntmps16
  go_wp2
  go_ret
  exact ⟨rfl, by go_grown⟩

set_option maxRecDepth 100000 in
theorem e_map_nil (m : Value) (w : World) : Calls Tryz.prog 16 #[m, .iface 71 (.agg #[])] w fun e w' => e = .returned (.bool false) ∧ Below w.heap.size w w' := by
  have h1 := q_nil_any
  have h2 := as_nil_map
  go_enter Tryz.func16, Tryz.ntmps16
  go_wp2
  go_ret
  exact ⟨rfl, by go_grown⟩

set_option maxRecDepth 100000 in
theorem e_map_rt (m : Value) (x : Value) (w : World) : Calls Tryz.prog 16 #[m, .iface 76 (x)] w fun e w' => e = .returned (.bool false) ∧ Below w.heap.size w w' := by
  have h1 := q_rt_any
  have h2 := as_rt_map
  go_enter Tryz.func16, Tryz.ntmps16
  go_wp2
  go_ret
  exact ⟨rfl, by go_grown⟩

set_option maxRecDepth 100000 in
theorem e_map_arr (m : Value) (x : Value) (w : World) : Calls Tryz.prog 16 #[m, .iface 67 (x)] w fun e w' => e = .returned (.bool false) ∧ Below w.heap.size w w' := by
  have h1 := q_arr_any
  have h2 := as_arr_map
  go_enter Tryz.func16, Tryz.ntmps16
  go_wp2
  go_ret
  exact ⟨rfl, by go_grown⟩

set_option maxRecDepth 100000 in
theorem e_map_none (m : Value) (w : World) : Calls Tryz.prog 16 #[m, .nilIface] w fun e w' => e = .returned (.bool false) ∧ Below w.heap.size w w' := by
  have h1 := q_none_any
  have h2 := as_none_map
  go_enter Tryz.func16, Tryz.ntmps16
  go_wp2
  go_ret
  exact ⟨rfl, by go_grown⟩

set_option maxRecDepth 100000 in
theorem e_arr_any (m : Value) (w : World) : Calls Tryz.prog 89 #[.agg #[m], .iface 69 (.agg #[])] w fun e w' => e = .returned (.bool true) ∧ Below w.heap.size w w' := by
  have h1 := q_any_any
  go_enter Tryz.func89, Tryz.ntmps89
  go_wp2
  go_ret
  exact ⟨rfl, by go_grown⟩

set_option maxRecDepth 100000 in
theorem e_arr_nil (m : Value) (w : World) : Calls Tryz.prog 89 #[.agg #[m], .iface 71 (.agg #[])] w fun e w' => e = .returned (.bool false) ∧ Below w.heap.size w w' := by
  have h1 := q_nil_any
  have h2 := as_nil_arr
  go_enter Tryz.func89, Tryz.ntmps89
  go_wp2
  go_ret
  exact ⟨rfl, by go_grown⟩

set_option maxRecDepth 100000 in
theorem e_arr_rt (m : Value) (x : Value) (w : World) : Calls Tryz.prog 89 #[.agg #[m], .iface 76 (x)] w fun e w' => e = .returned (.bool false) ∧ Below w.heap.size w w' := by
  have h1 := q_rt_any
  have h2 := as_rt_arr
  go_enter Tryz.func89, Tryz.ntmps89
  go_wp2
  go_ret
  exact ⟨rfl, by go_grown⟩

set_option maxRecDepth 100000 in
theorem e_arr_map (m : Value) (x : Value) (w : World) : Calls Tryz.prog 89 #[.agg #[m], .iface 41 (x)] w fun e w' => e = .returned (.bool false) ∧ Below w.heap.size w w' := by
  have h1 := q_map_any
  have h2 := as_map_arr
  go_enter Tryz.func89, Tryz.ntmps89
  go_wp2
  go_ret
  exact ⟨rfl, by go_grown⟩

set_option maxRecDepth 100000 in
theorem e_arr_none (m : Value) (w : World) : Calls Tryz.prog 89 #[.agg #[m], .nilIface] w fun e w' => e = .returned (.bool false) ∧ Below w.heap.size w w' := by
  have h1 := q_none_any
  have h2 := as_none_arr
  go_enter Tryz.func89, Tryz.ntmps89
  go_wp2
  go_ret
  exact ⟨rfl, by go_grown⟩

/-! ### array against array: by what Equal of the elements gives -/
set_option maxRecDepth 100000 in
theorem s_any (x y : Value) (ty : TypeId) (res : Bool) (w : World) (h : ∀ w1, Below w.heap.size w w1 → Calls Tryz.prog 43 #[x, .iface ty y] w1 fun e w' => e = .returned (.bool res) ∧ Below w1.heap.size w1 w') :
    Calls Tryz.prog 89 #[.agg #[.iface 69 x], .iface 67 (.agg #[.iface ty y])] w fun e w' => e = .returned (.bool res) ∧ Below w.heap.size w w' := by
  have H := Lib.hid h; clear h
  have h1 := q_arr_any
  have h2 := as_arr_arr
  cases res
  all_goals
    go_enter Tryz.func89, Tryz.ntmps89
    go_wp2_with (go_at_call 43; refine (H.out _ (by go_grown)).mono ?_; rintro e w1 ⟨rfl, hg⟩)
    go_ret
    exact ⟨rfl, grown_trans (by go_grown) hg⟩

set_option maxRecDepth 100000 in
theorem s_nil (x y : Value) (ty : TypeId) (res : Bool) (w : World) (h : ∀ w1, Below w.heap.size w w1 → Calls Tryz.prog 42 #[x, .iface ty y] w1 fun e w' => e = .returned (.bool res) ∧ Below w1.heap.size w1 w') :
    Calls Tryz.prog 89 #[.agg #[.iface 71 x], .iface 67 (.agg #[.iface ty y])] w fun e w' => e = .returned (.bool res) ∧ Below w.heap.size w w' := by
  have H := Lib.hid h; clear h
  have h1 := q_arr_any
  have h2 := as_arr_arr
  cases res
  all_goals
    go_enter Tryz.func89, Tryz.ntmps89
    go_wp2_with (go_at_call 42; refine (H.out _ (by go_grown)).mono ?_; rintro e w1 ⟨rfl, hg⟩)
    go_ret
    exact ⟨rfl, grown_trans (by go_grown) hg⟩

set_option maxRecDepth 100000 in
theorem s_rt (x y : Value) (ty : TypeId) (res : Bool) (w : World) (h : ∀ w1, Below w.heap.size w w1 → Calls Tryz.prog 96 #[x, .iface ty y] w1 fun e w' => e = .returned (.bool res) ∧ Below w1.heap.size w1 w') :
    Calls Tryz.prog 89 #[.agg #[.iface 76 x], .iface 67 (.agg #[.iface ty y])] w fun e w' => e = .returned (.bool res) ∧ Below w.heap.size w w' := by
  have H := Lib.hid h; clear h
  have h1 := q_arr_any
  have h2 := as_arr_arr
  cases res
  all_goals
    go_enter Tryz.func89, Tryz.ntmps89
    go_wp2_with (go_at_call 96; refine (H.out _ (by go_grown)).mono ?_; rintro e w1 ⟨rfl, hg⟩)
    go_ret
    exact ⟨rfl, grown_trans (by go_grown) hg⟩

set_option maxRecDepth 100000 in
theorem s_map (x y : Value) (ty : TypeId) (res : Bool) (w : World) (h : ∀ w1, Below w.heap.size w w1 → Calls Tryz.prog 16 #[x, .iface ty y] w1 fun e w' => e = .returned (.bool res) ∧ Below w1.heap.size w1 w') :
    Calls Tryz.prog 89 #[.agg #[.iface 41 x], .iface 67 (.agg #[.iface ty y])] w fun e w' => e = .returned (.bool res) ∧ Below w.heap.size w w' := by
  have H := Lib.hid h; clear h
  have h1 := q_arr_any
  have h2 := as_arr_arr
  cases res
  all_goals
    go_enter Tryz.func89, Tryz.ntmps89
    go_wp2_with (go_at_call 16; refine (H.out _ (by go_grown)).mono ?_; rintro e w1 ⟨rfl, hg⟩)
    go_ret
    exact ⟨rfl, grown_trans (by go_grown) hg⟩

set_option maxRecDepth 100000 in
theorem s_arr (x y : Value) (ty : TypeId) (res : Bool) (w : World) (h : ∀ w1, Below w.heap.size w w1 → Calls Tryz.prog 89 #[x, .iface ty y] w1 fun e w' => e = .returned (.bool res) ∧ Below w1.heap.size w1 w') :
    Calls Tryz.prog 89 #[.agg #[.iface 67 x], .iface 67 (.agg #[.iface ty y])] w fun e w' => e = .returned (.bool res) ∧ Below w.heap.size w w' := by
  have H := Lib.hid h; clear h
  have h1 := q_arr_any
  have h2 := as_arr_arr
  cases res
  all_goals
    go_enter Tryz.func89, Tryz.ntmps89
    go_wp2_with (go_at_call 89; refine (H.out _ (by go_grown)).mono ?_; rintro e w1 ⟨rfl, hg⟩)
    go_ret
    exact ⟨rfl, grown_trans (by go_grown) hg⟩

theorem bel_of {a b c : World} (h : Below a.heap.size a b) (g : Below b.heap.size b c) : Below a.heap.size a c := grown_trans h g
end Go.Proofs.YtnpmgandmmlilaaGreatFmt

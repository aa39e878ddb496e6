/-
  What is proved here: nature.FromType at the types int, string and interface{}, and integerType, stringType, by contracts: the very value, the world told exactly.
-/
import Derived.Test.YthhijnemlhjpgaaGreatSn
namespace Go.Proofs.YthhijnemlhjpgaaGreat
open Go.ChangeShapes Go.WideShapes Go.ChangeAt Go.RowKit Go.Extern
set_option linter.unusedVariables false

theorem kind_int (w : World) : (callFunc 157 #[.pointer (some ⟨0, 3, none⟩)]).run Tryz.prog w = .ok (.value (.int .u64 2)) w := by kernel_rfl
theorem kind_string (w : World) : (callFunc 157 #[.pointer (some ⟨0, 9, none⟩)]).run Tryz.prog w = .ok (.value (.int .u64 24)) w := by kernel_rfl
theorem kind_any (w : World) : (callFunc 157 #[.pointer (some ⟨0, 20, none⟩)]).run Tryz.prog w = .ok (.value (.int .u64 20)) w := by kernel_rfl
theorem invokeKind (p : Value) (w : World) : (Go.method 861 112 p "Kind").run Tryz.prog w = .ok (157, p) w := by kernel_rfl
theorem nilKind (a : Addr) (w : World) : (nilAhead 861 112 (.pointer (some a)) "Kind").run Tryz.prog w = .ok (some false) w := by kernel_rfl
theorem rt_neq_nil (v : Value) (w : World) : (binOp .neq 45 (.iface 112 v) .nilIface).run Tryz.prog w = .ok (.bool true) w := by kernel_rfl
theorem rt_eq_nil (v : Value) (w : World) : (binOp .eql 45 (.iface 112 v) .nilIface).run Tryz.prog w = .ok (.bool false) w := by kernel_rfl

theorem integerType_calls (w : World) :
    Calls Tryz.prog 30 #[] w fun e w' => e = .returned (.iface 112 (.pointer (some ⟨0, 3, none⟩))) ∧ w = w' := by
  have h1 := typeOf_call
  go_enter Tryz.func30, Tryz.ntmps30
  go_wp2
  go_ret
  exact ⟨rfl, rfl⟩
theorem stringType_calls (w : World) :
    Calls Tryz.prog 31 #[] w fun e w' => e = .returned (.iface 112 (.pointer (some ⟨0, 9, none⟩))) ∧ w = w' := by
  have h1 := typeOf_call
  go_enter Tryz.func31, Tryz.ntmps31
  go_wp2
  go_ret
  exact ⟨rfl, rfl⟩

set_option maxRecDepth 100000 in
theorem builtinInt_int (w : World) :
    Calls Tryz.prog 42 #[(.iface 112 (.pointer (some ⟨0, 3, none⟩)))] w fun e w' => e = .returned (.bool true) ∧ w = w' := by
  have h1 := typeOf_call
  have h2 : ∀ (w : World), (binOp .eql 45 (.iface 112 (.pointer (some ⟨0, 3, none⟩))) (.iface 112 (.pointer (some ⟨0, 3, none⟩)))).run Tryz.prog w = .ok (.bool true) w := fun w => by kernel_rfl
  go_enter Tryz.func42, Tryz.ntmps42
  go_wp2
  go_ret
  exact ⟨rfl, rfl⟩

set_option maxRecDepth 100000 in
theorem cacheFromType_any (w : World) :
    Calls Tryz.prog 40 #[.pointer none, (.iface 112 (.pointer (some ⟨0, 20, none⟩)))] w fun e w' => e = .returned (.agg #[(.iface 112 (.pointer (some ⟨0, 20, none⟩))), .int .u64 20, .pointer none, .pointer none, .bool false, .bool false, .bool false, .bool false, .bool false]) ∧ w' = w.alloc (.cells #[(.iface 112 (.pointer (some ⟨0, 20, none⟩))), .int .u64 20, .pointer none, .pointer none, .bool false, .bool false, .bool false, .bool false, .bool false] 50) := by
  have h2 := kind_any
  have h3 := invokeKind
  have h4 := nilKind
  have h5 := rt_eq_nil
  go_enter Tryz.func40, Tryz.ntmps40
  go_wp2
  go_returns
  exact ⟨rfl, rfl⟩

theorem fromType_any (w : World) :
    Calls Tryz.prog 35 #[(.iface 112 (.pointer (some ⟨0, 20, none⟩)))] w fun e w' => e = .returned (.agg #[(.iface 112 (.pointer (some ⟨0, 20, none⟩))), .int .u64 20, .pointer none, .pointer none, .bool false, .bool false, .bool false, .bool false, .bool false]) ∧ w' = (w.alloc (.cells #[(.iface 112 (.pointer (some ⟨0, 20, none⟩))), .int .u64 20, .pointer none, .pointer none, .bool false, .bool false, .bool false, .bool false, .bool false] 50)).alloc (.cells #[(.iface 112 (.pointer (some ⟨0, 20, none⟩))), .int .u64 20, .pointer none, .pointer none, .bool false, .bool false, .bool false, .bool false, .bool false] 50) := by
  go_enter Tryz.func35, Tryz.ntmps35
  go_wp2_with (go_at_call 40; (with_reducible refine (cacheFromType_any _).mono ?_); rintro e w1 ⟨rfl, rfl⟩)
  go_returns
  exact ⟨rfl, rfl⟩

set_option maxRecDepth 100000 in
theorem cacheFromType_string (w : World) :
    Calls Tryz.prog 40 #[.pointer none, (.iface 112 (.pointer (some ⟨0, 9, none⟩)))] w fun e w' => e = .returned (.agg #[(.iface 112 (.pointer (some ⟨0, 9, none⟩))), .int .u64 24, .pointer none, .pointer none, .bool false, .bool false, .bool false, .bool false, .bool false]) ∧ w' = w.alloc (.cells #[(.iface 112 (.pointer (some ⟨0, 9, none⟩))), .int .u64 24, .pointer none, .pointer none, .bool false, .bool false, .bool false, .bool false, .bool false] 50) := by
  have h2 := kind_string
  have h3 := invokeKind
  have h4 := nilKind
  have h5 := rt_eq_nil
  go_enter Tryz.func40, Tryz.ntmps40
  go_wp2
  go_returns
  exact ⟨rfl, rfl⟩

theorem fromType_string (w : World) :
    Calls Tryz.prog 35 #[(.iface 112 (.pointer (some ⟨0, 9, none⟩)))] w fun e w' => e = .returned (.agg #[(.iface 112 (.pointer (some ⟨0, 9, none⟩))), .int .u64 24, .pointer none, .pointer none, .bool false, .bool false, .bool false, .bool false, .bool false]) ∧ w' = (w.alloc (.cells #[(.iface 112 (.pointer (some ⟨0, 9, none⟩))), .int .u64 24, .pointer none, .pointer none, .bool false, .bool false, .bool false, .bool false, .bool false] 50)).alloc (.cells #[(.iface 112 (.pointer (some ⟨0, 9, none⟩))), .int .u64 24, .pointer none, .pointer none, .bool false, .bool false, .bool false, .bool false, .bool false] 50) := by
  go_enter Tryz.func35, Tryz.ntmps35
  go_wp2_with (go_at_call 40; (with_reducible refine (cacheFromType_string _).mono ?_); rintro e w1 ⟨rfl, rfl⟩)
  go_returns
  exact ⟨rfl, rfl⟩

set_option maxRecDepth 100000 in
theorem cacheFromType_int (w : World) :
    Calls Tryz.prog 40 #[.pointer none, (.iface 112 (.pointer (some ⟨0, 3, none⟩)))] w fun e w' => e = .returned (.agg #[(.iface 112 (.pointer (some ⟨0, 3, none⟩))), .int .u64 2, .pointer none, .pointer none, .bool false, .bool false, .bool false, .bool true, .bool false]) ∧ w' = w.alloc (.cells #[(.iface 112 (.pointer (some ⟨0, 3, none⟩))), .int .u64 2, .pointer none, .pointer none, .bool false, .bool false, .bool false, .bool true, .bool false] 50) := by
  have h2 := kind_int
  have h3 := invokeKind
  have h4 := nilKind
  have h5 := rt_eq_nil
  go_enter Tryz.func40, Tryz.ntmps40
  go_wp2_with (go_at_call 42; (with_reducible refine (builtinInt_int _).mono ?_); rintro e w1 ⟨rfl, rfl⟩)
  go_returns
  exact ⟨rfl, rfl⟩

theorem fromType_int (w : World) :
    Calls Tryz.prog 35 #[(.iface 112 (.pointer (some ⟨0, 3, none⟩)))] w fun e w' => e = .returned (.agg #[(.iface 112 (.pointer (some ⟨0, 3, none⟩))), .int .u64 2, .pointer none, .pointer none, .bool false, .bool false, .bool false, .bool true, .bool false]) ∧ w' = (w.alloc (.cells #[(.iface 112 (.pointer (some ⟨0, 3, none⟩))), .int .u64 2, .pointer none, .pointer none, .bool false, .bool false, .bool false, .bool true, .bool false] 50)).alloc (.cells #[(.iface 112 (.pointer (some ⟨0, 3, none⟩))), .int .u64 2, .pointer none, .pointer none, .bool false, .bool false, .bool false, .bool true, .bool false] 50) := by
  go_enter Tryz.func35, Tryz.ntmps35
  go_wp2_with (go_at_call 40; (with_reducible refine (cacheFromType_int _).mono ?_); rintro e w1 ⟨rfl, rfl⟩)
  go_returns
  exact ⟨rfl, rfl⟩

set_option maxRecDepth 100000 in
theorem setType_any (b : Nat) (w : World) (hb : b < w.heap.size) (c0 : w.cell? ⟨b, 2, none⟩ = some (.nilIface)) (f0 : w.frozen? ⟨b, 2, none⟩ = false) (c1 : w.cell? ⟨b, 3, none⟩ = some (.int .u64 0)) (f1 : w.frozen? ⟨b, 3, none⟩ = false) (c2 : w.cell? ⟨b, 4, none⟩ = some (.pointer none)) (f2 : w.frozen? ⟨b, 4, none⟩ = false) (c3 : w.cell? ⟨b, 5, none⟩ = some (.pointer none)) (f3 : w.frozen? ⟨b, 5, none⟩ = false) (c4 : w.cell? ⟨b, 6, none⟩ = some (.bool false)) (f4 : w.frozen? ⟨b, 6, none⟩ = false) (c5 : w.cell? ⟨b, 7, none⟩ = some (.bool false)) (f5 : w.frozen? ⟨b, 7, none⟩ = false) (c6 : w.cell? ⟨b, 8, none⟩ = some (.bool false)) (f6 : w.frozen? ⟨b, 8, none⟩ = false) (c7 : w.cell? ⟨b, 9, none⟩ = some (.bool false)) (f7 : w.frozen? ⟨b, 9, none⟩ = false) (c8 : w.cell? ⟨b, 10, none⟩ = some (.bool false)) (f8 : w.frozen? ⟨b, 10, none⟩ = false) :
    Calls Tryz.prog 32 #[.pointer (some ⟨b, 0, none⟩), (.iface 112 (.pointer (some ⟨0, 20, none⟩)))] w fun e w' => e = .returned (.tuple #[]) ∧ w' = (((((((((((w).setCell ⟨b, 2, none⟩ ((.iface 112 (.pointer (some ⟨0, 20, none⟩))))).setCell ⟨b, 3, none⟩ (.int .u64 20)).setCell ⟨b, 4, none⟩ (.pointer none)).setCell ⟨b, 5, none⟩ (.pointer none)).setCell ⟨b, 6, none⟩ (.bool false)).setCell ⟨b, 7, none⟩ (.bool false)).setCell ⟨b, 8, none⟩ (.bool false)).setCell ⟨b, 9, none⟩ (.bool false)).setCell ⟨b, 10, none⟩ (.bool false)).alloc (.cells #[(.iface 112 (.pointer (some ⟨0, 20, none⟩))), .int .u64 20, .pointer none, .pointer none, .bool false, .bool false, .bool false, .bool false, .bool false] 50)).alloc (.cells #[(.iface 112 (.pointer (some ⟨0, 20, none⟩))), .int .u64 20, .pointer none, .pointer none, .bool false, .bool false, .bool false, .bool false, .bool false] 50) := by
  go_enter Tryz.func32, Tryz.ntmps32
  go_wp2_with (go_at_call 35; (with_reducible refine (fromType_any _).mono ?_); rintro e w1 ⟨rfl, rfl⟩)
  go_end0
  exact ⟨rfl, rfl⟩

set_option maxRecDepth 100000 in
theorem setType_string (b : Nat) (w : World) (hb : b < w.heap.size) (c0 : w.cell? ⟨b, 2, none⟩ = some (.nilIface)) (f0 : w.frozen? ⟨b, 2, none⟩ = false) (c1 : w.cell? ⟨b, 3, none⟩ = some (.int .u64 0)) (f1 : w.frozen? ⟨b, 3, none⟩ = false) (c2 : w.cell? ⟨b, 4, none⟩ = some (.pointer none)) (f2 : w.frozen? ⟨b, 4, none⟩ = false) (c3 : w.cell? ⟨b, 5, none⟩ = some (.pointer none)) (f3 : w.frozen? ⟨b, 5, none⟩ = false) (c4 : w.cell? ⟨b, 6, none⟩ = some (.bool false)) (f4 : w.frozen? ⟨b, 6, none⟩ = false) (c5 : w.cell? ⟨b, 7, none⟩ = some (.bool false)) (f5 : w.frozen? ⟨b, 7, none⟩ = false) (c6 : w.cell? ⟨b, 8, none⟩ = some (.bool false)) (f6 : w.frozen? ⟨b, 8, none⟩ = false) (c7 : w.cell? ⟨b, 9, none⟩ = some (.bool false)) (f7 : w.frozen? ⟨b, 9, none⟩ = false) (c8 : w.cell? ⟨b, 10, none⟩ = some (.bool false)) (f8 : w.frozen? ⟨b, 10, none⟩ = false) :
    Calls Tryz.prog 32 #[.pointer (some ⟨b, 0, none⟩), (.iface 112 (.pointer (some ⟨0, 9, none⟩)))] w fun e w' => e = .returned (.tuple #[]) ∧ w' = (((((((((((w).setCell ⟨b, 2, none⟩ ((.iface 112 (.pointer (some ⟨0, 9, none⟩))))).setCell ⟨b, 3, none⟩ (.int .u64 24)).setCell ⟨b, 4, none⟩ (.pointer none)).setCell ⟨b, 5, none⟩ (.pointer none)).setCell ⟨b, 6, none⟩ (.bool false)).setCell ⟨b, 7, none⟩ (.bool false)).setCell ⟨b, 8, none⟩ (.bool false)).setCell ⟨b, 9, none⟩ (.bool false)).setCell ⟨b, 10, none⟩ (.bool false)).alloc (.cells #[(.iface 112 (.pointer (some ⟨0, 9, none⟩))), .int .u64 24, .pointer none, .pointer none, .bool false, .bool false, .bool false, .bool false, .bool false] 50)).alloc (.cells #[(.iface 112 (.pointer (some ⟨0, 9, none⟩))), .int .u64 24, .pointer none, .pointer none, .bool false, .bool false, .bool false, .bool false, .bool false] 50) := by
  go_enter Tryz.func32, Tryz.ntmps32
  go_wp2_with (go_at_call 35; (with_reducible refine (fromType_string _).mono ?_); rintro e w1 ⟨rfl, rfl⟩)
  go_end0
  exact ⟨rfl, rfl⟩

set_option maxRecDepth 100000 in
theorem setType_int (b : Nat) (w : World) (hb : b < w.heap.size) (c0 : w.cell? ⟨b, 2, none⟩ = some (.nilIface)) (f0 : w.frozen? ⟨b, 2, none⟩ = false) (c1 : w.cell? ⟨b, 3, none⟩ = some (.int .u64 0)) (f1 : w.frozen? ⟨b, 3, none⟩ = false) (c2 : w.cell? ⟨b, 4, none⟩ = some (.pointer none)) (f2 : w.frozen? ⟨b, 4, none⟩ = false) (c3 : w.cell? ⟨b, 5, none⟩ = some (.pointer none)) (f3 : w.frozen? ⟨b, 5, none⟩ = false) (c4 : w.cell? ⟨b, 6, none⟩ = some (.bool false)) (f4 : w.frozen? ⟨b, 6, none⟩ = false) (c5 : w.cell? ⟨b, 7, none⟩ = some (.bool false)) (f5 : w.frozen? ⟨b, 7, none⟩ = false) (c6 : w.cell? ⟨b, 8, none⟩ = some (.bool false)) (f6 : w.frozen? ⟨b, 8, none⟩ = false) (c7 : w.cell? ⟨b, 9, none⟩ = some (.bool false)) (f7 : w.frozen? ⟨b, 9, none⟩ = false) (c8 : w.cell? ⟨b, 10, none⟩ = some (.bool false)) (f8 : w.frozen? ⟨b, 10, none⟩ = false) :
    Calls Tryz.prog 32 #[.pointer (some ⟨b, 0, none⟩), (.iface 112 (.pointer (some ⟨0, 3, none⟩)))] w fun e w' => e = .returned (.tuple #[]) ∧ w' = (((((((((((w).setCell ⟨b, 2, none⟩ ((.iface 112 (.pointer (some ⟨0, 3, none⟩))))).setCell ⟨b, 3, none⟩ (.int .u64 2)).setCell ⟨b, 4, none⟩ (.pointer none)).setCell ⟨b, 5, none⟩ (.pointer none)).setCell ⟨b, 6, none⟩ (.bool false)).setCell ⟨b, 7, none⟩ (.bool false)).setCell ⟨b, 8, none⟩ (.bool false)).setCell ⟨b, 9, none⟩ (.bool true)).setCell ⟨b, 10, none⟩ (.bool false)).alloc (.cells #[(.iface 112 (.pointer (some ⟨0, 3, none⟩))), .int .u64 2, .pointer none, .pointer none, .bool false, .bool false, .bool false, .bool true, .bool false] 50)).alloc (.cells #[(.iface 112 (.pointer (some ⟨0, 3, none⟩))), .int .u64 2, .pointer none, .pointer none, .bool false, .bool false, .bool false, .bool true, .bool false] 50) := by
  go_enter Tryz.func32, Tryz.ntmps32
  go_wp2_with (go_at_call 35; (with_reducible refine (fromType_int _).mono ?_); rintro e w1 ⟨rfl, rfl⟩)
  go_end0
  exact ⟨rfl, rfl⟩
end Go.Proofs.YthhijnemlhjpgaaGreat

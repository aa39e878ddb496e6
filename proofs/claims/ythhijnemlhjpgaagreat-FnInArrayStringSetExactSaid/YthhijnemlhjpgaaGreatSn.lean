/-
  What is proved here: the walk of FnSetNatureStoresACopy: it returns true for every two ints and string, in a world that has only grown.
-/
import Derived.Test.YthhijnemlhjpgaaGreatRf
import Derived.LaidEqlPtr
namespace Go.Proofs.YthhijnemlhjpgaaGreat
open Go.ChangeShapes Go.WideShapes Go.ChangeAt Go.RowKit Go.Extern
set_option linter.unusedVariables false

theorem elem_any (w : World) : (callFunc 145 #[.pointer (some ⟨0, 110, none⟩)]).run Tryz.prog w = .ok (.value (.iface 112 (.pointer (some ⟨0, 20, none⟩)))) w := by kernel_rfl
theorem invokeElem (p : Value) (w : World) : (Go.method 861 112 p "Elem").run Tryz.prog w = .ok (145, p) w := by kernel_rfl

theorem anyType_calls (w : World) :
    Calls Tryz.prog 29 #[] w fun e w' => e = .returned (.iface 112 (.pointer (some ⟨0, 20, none⟩))) ∧ w' = w.alloc (.cells #[.nilIface] 20) := by
  have h1 := typeOf_call
  have h2 := elem_any
  have h3 := invokeElem
  go_enter Tryz.func29, Tryz.ntmps29
  go_wp2
  go_ret
  exact ⟨rfl, rfl⟩

theorem ptr_neq_same {P : Program} {tp te : TypeId} (a : Addr) (hp : P.underlying tp = some (.pointer te)) (hte : (P.info? te).isSome = true) (w : World) :
    (binOp .neq tp (.pointer (some a)) (.pointer (some a))).run P w = .ok (.bool false) w := by
  obtain ⟨j, hj⟩ := Option.isSome_iff_exists.1 hte
  have h : ∀ d : Nat, (Op.equalIn (d + 1) tp (.pointer (some a)) (.pointer (some a))).run P w = .ok true w := fun d => by
    simp [Op.equalIn, run_underlying hp, sizeOf, typeInfo, hj, run_sameAddr_same]
  simp only [binOp]
  simp [Op.equal, Op.maxDepth, h 9999]

theorem zb_small (x y : Int) (s : ByteArray) (w : World) (hs : s.size ≤ 1048576) :
    Calls Tryz.prog 18 #[.int .i64 x, .int .i64 y, .string s] w fun e w' => e = .returned (.bool true) ∧ w = w' := by
  go_enter Tryz.func18, Tryz.ntmps18
  go_wp2
  go_ret
  exact ⟨rfl, rfl⟩

theorem law_big (x y : Int) (s : ByteArray) (w : World) (h1 : s.size ≤ 9223372036854775807) (hs : ¬ s.size ≤ 1048576) :
    Calls Tryz.prog 6 #[.int .i64 x, .int .i64 y, .string s] w fun e w' => e = .returned (.bool true) ∧ Grown w w' := by
  go_enter Tryz.func6, Tryz.ntmps6
  go_wp2
  go_ret
  exact ⟨rfl, by go_grown⟩

theorem nature_calls (b o : Nat) (w : World) :
    Calls Tryz.prog 19 #[.pointer (some ⟨b, o, none⟩)] w fun e w' => e = .returned (.pointer (some ⟨b, o + 2, none⟩)) ∧ w = w' := by
  go_enter Tryz.func19, Tryz.ntmps19
  go_wp2
  go_ret
  exact ⟨rfl, rfl⟩

theorem type_none (b : Nat) (w : World) (hc : w.cell? ⟨b, 2, none⟩ = some .nilIface) :
    Calls Tryz.prog 20 #[.pointer (some ⟨b, 0, none⟩)] w fun e w' => e = .returned (.iface 112 (.pointer (some ⟨0, 20, none⟩))) ∧ w' = w.alloc (.cells #[.nilIface] 20) := by
  go_enter Tryz.func20, Tryz.ntmps20
  go_wp2_with (go_at_call 29; (with_reducible refine (anyType_calls _).mono ?_); rintro e w1 ⟨rfl, rfl⟩)
  go_ret
  exact ⟨rfl, rfl⟩

theorem type_some (b t : Nat) (v : Value) (w : World) (hc : w.cell? ⟨b, 2, none⟩ = some (.iface t v)) :
    Calls Tryz.prog 20 #[.pointer (some ⟨b, 0, none⟩)] w fun e w' => e = .returned (.iface t v) ∧ w = w' := by
  have h1 : ∀ (x : Value) (w : World), (binOp .eql 45 (.iface t x) .nilIface).run Tryz.prog w = .ok (.bool false) w := fun x w => by kernel_rfl
  go_enter Tryz.func20, Tryz.ntmps20
  go_wp2
  go_ret
  exact ⟨rfl, rfl⟩

set_option maxRecDepth 100000 in
theorem setNature_some (b : Nat) (t : Nat) (v : Value) (k : Int) (i f : Bool) (u0 u1 u2 u3 u4 u5 u6 u7 u8 : Value) (w : World) (hb : b < w.heap.size) (c0 : w.cell? ⟨b, 2, none⟩ = some u0) (f0 : w.frozen? ⟨b, 2, none⟩ = false) (c1 : w.cell? ⟨b, 3, none⟩ = some u1) (f1 : w.frozen? ⟨b, 3, none⟩ = false) (c2 : w.cell? ⟨b, 4, none⟩ = some u2) (f2 : w.frozen? ⟨b, 4, none⟩ = false) (c3 : w.cell? ⟨b, 5, none⟩ = some u3) (f3 : w.frozen? ⟨b, 5, none⟩ = false) (c4 : w.cell? ⟨b, 6, none⟩ = some u4) (f4 : w.frozen? ⟨b, 6, none⟩ = false) (c5 : w.cell? ⟨b, 7, none⟩ = some u5) (f5 : w.frozen? ⟨b, 7, none⟩ = false) (c6 : w.cell? ⟨b, 8, none⟩ = some u6) (f6 : w.frozen? ⟨b, 8, none⟩ = false) (c7 : w.cell? ⟨b, 9, none⟩ = some u7) (f7 : w.frozen? ⟨b, 9, none⟩ = false) (c8 : w.cell? ⟨b, 10, none⟩ = some u8) (f8 : w.frozen? ⟨b, 10, none⟩ = false) :
    Calls Tryz.prog 21 #[.pointer (some ⟨b, 0, none⟩), .agg #[.iface t v, .int .u64 k, .pointer none, .pointer none, .bool false, .bool false, .bool false, .bool i, .bool f]] w fun e w' => e = .returned (.tuple #[]) ∧ w' = ((((((((((w).setCell ⟨b, 2, none⟩ (.iface t v)).setCell ⟨b, 3, none⟩ (.int .u64 k)).setCell ⟨b, 4, none⟩ (.pointer none)).setCell ⟨b, 5, none⟩ (.pointer none)).setCell ⟨b, 6, none⟩ (.bool false)).setCell ⟨b, 7, none⟩ (.bool false)).setCell ⟨b, 8, none⟩ (.bool false)).setCell ⟨b, 9, none⟩ (.bool i)).setCell ⟨b, 10, none⟩ (.bool f)).alloc (.cells #[.iface t v, .int .u64 k, .pointer none, .pointer none, .bool false, .bool false, .bool false, .bool i, .bool f] 50) := by
  go_enter Tryz.func21, Tryz.ntmps21
  go_wp2
  go_end0
  exact ⟨rfl, rfl⟩

set_option maxRecDepth 100000 in
theorem setNature_none (b : Nat) (k : Int) (i f : Bool) (u0 u1 u2 u3 u4 u5 u6 u7 u8 : Value) (w : World) (hb : b < w.heap.size) (c0 : w.cell? ⟨b, 2, none⟩ = some u0) (f0 : w.frozen? ⟨b, 2, none⟩ = false) (c1 : w.cell? ⟨b, 3, none⟩ = some u1) (f1 : w.frozen? ⟨b, 3, none⟩ = false) (c2 : w.cell? ⟨b, 4, none⟩ = some u2) (f2 : w.frozen? ⟨b, 4, none⟩ = false) (c3 : w.cell? ⟨b, 5, none⟩ = some u3) (f3 : w.frozen? ⟨b, 5, none⟩ = false) (c4 : w.cell? ⟨b, 6, none⟩ = some u4) (f4 : w.frozen? ⟨b, 6, none⟩ = false) (c5 : w.cell? ⟨b, 7, none⟩ = some u5) (f5 : w.frozen? ⟨b, 7, none⟩ = false) (c6 : w.cell? ⟨b, 8, none⟩ = some u6) (f6 : w.frozen? ⟨b, 8, none⟩ = false) (c7 : w.cell? ⟨b, 9, none⟩ = some u7) (f7 : w.frozen? ⟨b, 9, none⟩ = false) (c8 : w.cell? ⟨b, 10, none⟩ = some u8) (f8 : w.frozen? ⟨b, 10, none⟩ = false) :
    Calls Tryz.prog 21 #[.pointer (some ⟨b, 0, none⟩), .agg #[.nilIface, .int .u64 k, .pointer none, .pointer none, .bool false, .bool false, .bool false, .bool i, .bool f]] w fun e w' => e = .returned (.tuple #[]) ∧ w' = ((((((((((w).setCell ⟨b, 2, none⟩ (.nilIface)).setCell ⟨b, 3, none⟩ (.int .u64 k)).setCell ⟨b, 4, none⟩ (.pointer none)).setCell ⟨b, 5, none⟩ (.pointer none)).setCell ⟨b, 6, none⟩ (.bool false)).setCell ⟨b, 7, none⟩ (.bool false)).setCell ⟨b, 8, none⟩ (.bool false)).setCell ⟨b, 9, none⟩ (.bool i)).setCell ⟨b, 10, none⟩ (.bool f)).alloc (.cells #[.nilIface, .int .u64 k, .pointer none, .pointer none, .bool false, .bool false, .bool false, .bool i, .bool f] 50) := by
  go_enter Tryz.func21, Tryz.ntmps21
  go_wp2
  go_end0
  exact ⟨rfl, rfl⟩

set_option maxRecDepth 100000 in
set_option maxHeartbeats 8000000 in
theorem law_small (x y : Int) (s : ByteArray) (w : World) (hs : s.size ≤ 1048576) :
    Calls Tryz.prog 6 #[.int .i64 x, .int .i64 y, .string s] w fun e w' => e = .returned (.bool true) ∧ Grown w w' := by
  have H := Lib.hid (zb_small x y s w hs)
  have k1 : ∀ (w : World), (binOp .eql 45 (.iface 112 (.pointer (some ⟨0, 20, none⟩))) .nilIface).run Tryz.prog w = .ok (.bool false) w := fun w => by kernel_rfl
  have k2 : ∀ (w : World), (binOp .neq 45 (.iface 112 (.pointer (some ⟨0, 20, none⟩))) (.iface 112 (.pointer (some ⟨0, 20, none⟩)))).run Tryz.prog w = .ok (.bool false) w := fun w => by kernel_rfl
  have k3 : ∀ (a : Addr) (w : World), (binOp .neq 48 (.pointer (some a)) (.pointer (some a))).run Tryz.prog w = .ok (.bool false) w := fun a w => ptr_neq_same a Tryz.underlying48 (by kernel_rfl) w
  go_enter Tryz.func6, Tryz.ntmps6
  go_wp2_with (first | (go_at_call 18; (with_reducible refine H.out.mono ?_); rintro e w1 ⟨rfl, rfl⟩) | (go_at_call 29; (with_reducible refine (anyType_calls _).mono ?_); rintro e w1 ⟨rfl, rfl⟩) | (go_at_call 19; (with_reducible refine (nature_calls _ _ _).mono ?_); rintro e w1 ⟨rfl, rfl⟩) | (go_at_call 20; go_call (type_none _ _) as e w1 ⟨rfl, rfl⟩) | (go_at_call 20; go_call (type_some _ 112 (.pointer (some ⟨0, 20, none⟩)) _) as e w1 ⟨rfl, rfl⟩) | (go_at_call 21; go_call (setNature_some _ _ _ _ _ _ .nilIface (.int .u64 0) (.pointer none) (.pointer none) (.bool false) (.bool false) (.bool false) (.bool false) (.bool false) _) as e w1 ⟨rfl, rfl⟩) | (go_at_call 21; go_call (setNature_none _ _ _ _ (.iface 112 (.pointer (some ⟨0, 20, none⟩))) (.int .u64 0) (.pointer none) (.pointer none) (.bool false) (.bool false) (.bool false) (.bool false) (.bool false) _) as e w1 ⟨rfl, rfl⟩))
  go_region_with (go_at_call 21; go_call (setNature_some _ _ _ _ _ _ .nilIface (.int .u64 0) (.pointer none) (.pointer none) (.bool false) (.bool false) (.bool false) (.bool false) (.bool false) _) as e w1 ⟨rfl, rfl⟩)
  go_wp2_with (go_at_call 19; (with_reducible refine (nature_calls _ _ _).mono ?_); rintro e w1 ⟨rfl, rfl⟩)
  go_call (type_some _ 112 (.pointer (some ⟨0, 20, none⟩)) _) as e w1 ⟨rfl, rfl⟩
  go_wp2_with (go_at_call 19; (with_reducible refine (nature_calls _ _ _).mono ?_); rintro e w1 ⟨rfl, rfl⟩)
  go_call (setNature_none _ _ _ _ (.iface 112 (.pointer (some ⟨0, 20, none⟩))) (.int .u64 0) (.pointer none) (.pointer none) (.bool false) (.bool false) (.bool false) (.bool false) (.bool false) _) as e w1 ⟨rfl, rfl⟩
  go_wp2_with (go_at_call 19; (with_reducible refine (nature_calls _ _ _).mono ?_); rintro e w1 ⟨rfl, rfl⟩)
  go_call (type_none _ _) as e w1 ⟨rfl, rfl⟩
  go_wp2_with (go_at_call 19; (with_reducible refine (nature_calls _ _ _).mono ?_); rintro e w1 ⟨rfl, rfl⟩)
  go_ret
  exact ⟨rfl, by go_grown⟩
end Go.Proofs.YthhijnemlhjpgaaGreat

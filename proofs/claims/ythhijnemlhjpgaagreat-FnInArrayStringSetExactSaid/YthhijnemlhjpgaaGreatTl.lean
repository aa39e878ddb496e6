/-
  What is proved here: zzMod_b4 and zzTypedLeft_b4 by contracts.
-/
import Derived.Test.YthhijnemlhjpgaaGreatNa
namespace Go.Proofs.YthhijnemlhjpgaaGreat
open Go.ChangeShapes Go.WideShapes Go.ChangeAt Go.RowKit Go.Extern
set_option linter.unusedVariables false

def zm (k : Int) : Int := if Int.tmod k 3 < 0 then Int.tmod k 3 + 3 else Int.tmod k 3
theorem tmod3 (k : Int) : -2 ≤ k.tmod 3 ∧ k.tmod 3 ≤ 2 := by
  obtain ⟨n, rfl | rfl⟩ := Int.eq_nat_or_neg k
  · have := Int.tmod_nonneg (a := (n : Int)) 3 (by omega)
    have := Int.tmod_lt_of_pos (n : Int) (b := 3) (by omega)
    omega
  · rw [Int.neg_tmod]
    have := Int.tmod_nonneg (a := (n : Int)) 3 (by omega)
    have := Int.tmod_lt_of_pos (n : Int) (b := 3) (by omega)
    omega
theorem zm_three (k : Int) : zm k = 0 ∨ zm k = 1 ∨ zm k = 2 := by
  have := tmod3 k
  unfold zm; split <;> omega
theorem ret_i {a b : Int} (h : a = b) : Ending.returned (.int .i64 a) = .returned (.int .i64 b) := by rw [h]

theorem zmod_any (k : Int) (w : World) (h1 : -128 ≤ k) (h2 : k ≤ 127) :
    Calls Tryz.prog 8 #[.int .i8 k, .int .i64 3] w fun e w' => e = .returned (.int .i64 (zm k)) ∧ w = w' := by
  obtain ⟨hb1, hb2⟩ := tmod3 k
  by_cases h : k.tmod 3 < 0
  · go_enter Tryz.func8, Tryz.ntmps8
    go_wp2
    go_ret
    refine ⟨ret_i ?_, rfl⟩
    unfold zm; rw [if_pos (by omega)]
  · go_enter Tryz.func8, Tryz.ntmps8
    go_wp2
    go_ret
    refine ⟨ret_i ?_, rfl⟩
    unfold zm; rw [if_neg (by omega)]

set_option maxRecDepth 100000 in
theorem zzSetType_string (b : Nat) (w : World) (hb : b < w.heap.size) (c0 : w.cell? ⟨b, 2, none⟩ = some (.nilIface)) (f0 : w.frozen? ⟨b, 2, none⟩ = false) (c1 : w.cell? ⟨b, 3, none⟩ = some (.int .u64 0)) (f1 : w.frozen? ⟨b, 3, none⟩ = false) (c2 : w.cell? ⟨b, 4, none⟩ = some (.pointer none)) (f2 : w.frozen? ⟨b, 4, none⟩ = false) (c3 : w.cell? ⟨b, 5, none⟩ = some (.pointer none)) (f3 : w.frozen? ⟨b, 5, none⟩ = false) (c4 : w.cell? ⟨b, 6, none⟩ = some (.bool false)) (f4 : w.frozen? ⟨b, 6, none⟩ = false) (c5 : w.cell? ⟨b, 7, none⟩ = some (.bool false)) (f5 : w.frozen? ⟨b, 7, none⟩ = false) (c6 : w.cell? ⟨b, 8, none⟩ = some (.bool false)) (f6 : w.frozen? ⟨b, 8, none⟩ = false) (c7 : w.cell? ⟨b, 9, none⟩ = some (.bool false)) (f7 : w.frozen? ⟨b, 9, none⟩ = false) (c8 : w.cell? ⟨b, 10, none⟩ = some (.bool false)) (f8 : w.frozen? ⟨b, 10, none⟩ = false) :
    Calls Tryz.prog 23 #[.iface 39 (.pointer (some ⟨b, 0, none⟩))] w fun e w' => e = .returned (.tuple #[]) ∧ w' = ((((((((((((w).setCell ⟨b, 2, none⟩ ((.iface 112 (.pointer (some ⟨0, 9, none⟩))))).setCell ⟨b, 3, none⟩ (.int .u64 24)).setCell ⟨b, 4, none⟩ (.pointer none)).setCell ⟨b, 5, none⟩ (.pointer none)).setCell ⟨b, 6, none⟩ (.bool false)).setCell ⟨b, 7, none⟩ (.bool false)).setCell ⟨b, 8, none⟩ (.bool false)).setCell ⟨b, 9, none⟩ (.bool false)).setCell ⟨b, 10, none⟩ (.bool false)).alloc (.cells #[(.iface 112 (.pointer (some ⟨0, 9, none⟩))), .int .u64 24, .pointer none, .pointer none, .bool false, .bool false, .bool false, .bool false, .bool false] 50)).alloc (.cells #[(.iface 112 (.pointer (some ⟨0, 9, none⟩))), .int .u64 24, .pointer none, .pointer none, .bool false, .bool false, .bool false, .bool false, .bool false] 50)).drew := by
  have n1 : ∀ (a : Addr) (w : World), (nilAhead 861 39 (.pointer (some a)) "SetType").run Tryz.prog w = .ok (some false) w := fun v w => by kernel_rfl
  have m1 : ∀ (b : Nat) (w : World), (Go.method 861 39 (.pointer (some ⟨b, 0, none⟩)) "SetType").run Tryz.prog w = .ok (32, .pointer (some ⟨b, 0, none⟩)) w := fun b w => by kernel_rfl
  go_enter Tryz.func23, Tryz.ntmps23
  go_region_with (first | (go_at_call 31; (with_reducible refine (stringType_calls _).mono ?_); rintro e w1 ⟨rfl, rfl⟩) | (go_at_call 32; go_call (setType_string _ _) as e w1 ⟨rfl, rfl⟩))
  all_goals go_wp2
  all_goals go_end0
  all_goals exact ⟨rfl, rfl⟩

set_option maxRecDepth 100000 in
theorem zzSetType_int (b : Nat) (w : World) (hb : b < w.heap.size) (c0 : w.cell? ⟨b, 2, none⟩ = some (.nilIface)) (f0 : w.frozen? ⟨b, 2, none⟩ = false) (c1 : w.cell? ⟨b, 3, none⟩ = some (.int .u64 0)) (f1 : w.frozen? ⟨b, 3, none⟩ = false) (c2 : w.cell? ⟨b, 4, none⟩ = some (.pointer none)) (f2 : w.frozen? ⟨b, 4, none⟩ = false) (c3 : w.cell? ⟨b, 5, none⟩ = some (.pointer none)) (f3 : w.frozen? ⟨b, 5, none⟩ = false) (c4 : w.cell? ⟨b, 6, none⟩ = some (.bool false)) (f4 : w.frozen? ⟨b, 6, none⟩ = false) (c5 : w.cell? ⟨b, 7, none⟩ = some (.bool false)) (f5 : w.frozen? ⟨b, 7, none⟩ = false) (c6 : w.cell? ⟨b, 8, none⟩ = some (.bool false)) (f6 : w.frozen? ⟨b, 8, none⟩ = false) (c7 : w.cell? ⟨b, 9, none⟩ = some (.bool false)) (f7 : w.frozen? ⟨b, 9, none⟩ = false) (c8 : w.cell? ⟨b, 10, none⟩ = some (.bool false)) (f8 : w.frozen? ⟨b, 10, none⟩ = false) :
    Calls Tryz.prog 22 #[.iface 39 (.pointer (some ⟨b, 0, none⟩))] w fun e w' => e = .returned (.tuple #[]) ∧ w' = ((((((((((((w).setCell ⟨b, 2, none⟩ ((.iface 112 (.pointer (some ⟨0, 3, none⟩))))).setCell ⟨b, 3, none⟩ (.int .u64 2)).setCell ⟨b, 4, none⟩ (.pointer none)).setCell ⟨b, 5, none⟩ (.pointer none)).setCell ⟨b, 6, none⟩ (.bool false)).setCell ⟨b, 7, none⟩ (.bool false)).setCell ⟨b, 8, none⟩ (.bool false)).setCell ⟨b, 9, none⟩ (.bool true)).setCell ⟨b, 10, none⟩ (.bool false)).alloc (.cells #[(.iface 112 (.pointer (some ⟨0, 3, none⟩))), .int .u64 2, .pointer none, .pointer none, .bool false, .bool false, .bool false, .bool true, .bool false] 50)).alloc (.cells #[(.iface 112 (.pointer (some ⟨0, 3, none⟩))), .int .u64 2, .pointer none, .pointer none, .bool false, .bool false, .bool false, .bool true, .bool false] 50)).drew := by
  have n1 : ∀ (a : Addr) (w : World), (nilAhead 861 39 (.pointer (some a)) "SetType").run Tryz.prog w = .ok (some false) w := fun v w => by kernel_rfl
  have m1 : ∀ (b : Nat) (w : World), (Go.method 861 39 (.pointer (some ⟨b, 0, none⟩)) "SetType").run Tryz.prog w = .ok (32, .pointer (some ⟨b, 0, none⟩)) w := fun b w => by kernel_rfl
  go_enter Tryz.func22, Tryz.ntmps22
  go_region_with (first | (go_at_call 30; (with_reducible refine (integerType_calls _).mono ?_); rintro e w1 ⟨rfl, rfl⟩) | (go_at_call 32; go_call (setType_int _ _) as e w1 ⟨rfl, rfl⟩))
  all_goals go_wp2
  all_goals go_end0
  all_goals exact ⟨rfl, rfl⟩

set_option maxRecDepth 100000 in
theorem typedLeft_0 (w : World) :
    Calls Tryz.prog 9 #[.int .i64 0] w fun e w' => e = .returned (.pointer (some ⟨w.heap.size, 0, none⟩)) ∧ w' = w.alloc (.cells #[.int .i64 0, .int .i64 0, .nilIface, .int .u64 0, .pointer none, .pointer none, .bool false, .bool false, .bool false, .bool false, .bool false, .string ⟨#[120]⟩] 54) := by
  go_enter Tryz.func9, Tryz.ntmps9
  go_wp2
  go_ret
  exact ⟨rfl, rfl⟩

set_option maxRecDepth 100000 in
theorem typedLeft_1 (w : World) :
    Calls Tryz.prog 9 #[.int .i64 1] w fun e w' => e = .returned (.pointer (some ⟨w.heap.size, 0, none⟩)) ∧ w' = (((w.alloc (.cells #[.int .i64 0, .int .i64 0, (.iface 112 (.pointer (some ⟨0, 3, none⟩))), .int .u64 2, .pointer none, .pointer none, .bool false, .bool false, .bool false, .bool true, .bool false, .string ⟨#[120]⟩] 54)).alloc (.cells #[(.iface 112 (.pointer (some ⟨0, 3, none⟩))), .int .u64 2, .pointer none, .pointer none, .bool false, .bool false, .bool false, .bool true, .bool false] 50)).alloc (.cells #[(.iface 112 (.pointer (some ⟨0, 3, none⟩))), .int .u64 2, .pointer none, .pointer none, .bool false, .bool false, .bool false, .bool true, .bool false] 50)).drew := by
  go_enter Tryz.func9, Tryz.ntmps9
  go_wp2_with (go_at_call 22; go_call (zzSetType_int _ _) as e w1 ⟨rfl, rfl⟩)
  go_ret
  exact ⟨rfl, rfl⟩

set_option maxRecDepth 100000 in
theorem typedLeft_2 (w : World) :
    Calls Tryz.prog 9 #[.int .i64 2] w fun e w' => e = .returned (.pointer (some ⟨w.heap.size, 0, none⟩)) ∧ w' = (((w.alloc (.cells #[.int .i64 0, .int .i64 0, (.iface 112 (.pointer (some ⟨0, 9, none⟩))), .int .u64 24, .pointer none, .pointer none, .bool false, .bool false, .bool false, .bool false, .bool false, .string ⟨#[120]⟩] 54)).alloc (.cells #[(.iface 112 (.pointer (some ⟨0, 9, none⟩))), .int .u64 24, .pointer none, .pointer none, .bool false, .bool false, .bool false, .bool false, .bool false] 50)).alloc (.cells #[(.iface 112 (.pointer (some ⟨0, 9, none⟩))), .int .u64 24, .pointer none, .pointer none, .bool false, .bool false, .bool false, .bool false, .bool false] 50)).drew := by
  go_enter Tryz.func9, Tryz.ntmps9
  go_wp2_with (go_at_call 23; go_call (zzSetType_string _ _) as e w1 ⟨rfl, rfl⟩)
  go_ret
  exact ⟨rfl, rfl⟩
end Go.Proofs.YthhijnemlhjpgaaGreat

/-
  What is proved here: zzEvalInt_b4 and zzEvalBool_b4 on the trees of the law, by contracts.
-/
import Derived.Test.YthhijnemlhjpgaaGreatPt
namespace Go.Proofs.YthhijnemlhjpgaaGreat
open Go.ChangeShapes Go.WideShapes Go.ChangeAt Go.RowKit Go.Extern
set_option linter.unusedVariables false

theorem ta_BB (v : Value) (w : World) : (Instr.typeAssert (.iface 63 v) 56 63 true).run Tryz.prog w = .ok (.tuple #[v, .bool true]) w := by kernel_rfl
theorem ta_BI (v : Value) (w : World) : (Instr.typeAssert (.iface 63 v) 56 57 true).run Tryz.prog w = .ok (.tuple #[.pointer none, .bool false]) w := by kernel_rfl
theorem ta_BD (v : Value) (w : World) : (Instr.typeAssert (.iface 63 v) 56 39 true).run Tryz.prog w = .ok (.tuple #[.pointer none, .bool false]) w := by kernel_rfl
theorem ta_IB (v : Value) (w : World) : (Instr.typeAssert (.iface 57 v) 56 63 true).run Tryz.prog w = .ok (.tuple #[.pointer none, .bool false]) w := by kernel_rfl
theorem ta_II (v : Value) (w : World) : (Instr.typeAssert (.iface 57 v) 56 57 true).run Tryz.prog w = .ok (.tuple #[v, .bool true]) w := by kernel_rfl
theorem ta_ID (v : Value) (w : World) : (Instr.typeAssert (.iface 57 v) 56 39 true).run Tryz.prog w = .ok (.tuple #[.pointer none, .bool false]) w := by kernel_rfl
theorem ta_DB (v : Value) (w : World) : (Instr.typeAssert (.iface 39 v) 56 63 true).run Tryz.prog w = .ok (.tuple #[.pointer none, .bool false]) w := by kernel_rfl
theorem ta_DI (v : Value) (w : World) : (Instr.typeAssert (.iface 39 v) 56 57 true).run Tryz.prog w = .ok (.tuple #[.pointer none, .bool false]) w := by kernel_rfl
theorem ta_DD (v : Value) (w : World) : (Instr.typeAssert (.iface 39 v) 56 39 true).run Tryz.prog w = .ok (.tuple #[v, .bool true]) w := by kernel_rfl

set_option maxRecDepth 100000 in
theorem evalInt_int (b : Nat) (v x : Int) (w : World) (hc : w.cell? ⟨b, 11, none⟩ = some (.int .i64 v)) :
    Calls Tryz.prog 28 #[.iface 57 (.pointer (some ⟨b, 0, none⟩)), .int .i64 x] w fun e w' => e = .returned (.tuple #[.int .i64 v, .bool true]) ∧ w = w' := by
  have q1 := ta_II
  have q2 := ta_DI
  have q3 := ta_DD
  go_enter Tryz.func28, Tryz.ntmps28
  go_wp2
  go_returns
  exact ⟨rfl, rfl⟩

set_option maxRecDepth 100000 in
theorem evalInt_id (b : Nat) (x : Int) (w : World) (hc : w.cell? ⟨b, 11, none⟩ = some (.string ⟨#[120]⟩)) :
    Calls Tryz.prog 28 #[.iface 39 (.pointer (some ⟨b, 0, none⟩)), .int .i64 x] w fun e w' => e = .returned (.tuple #[.int .i64 x, .bool true]) ∧ w = w' := by
  have q1 := ta_II
  have q2 := ta_DI
  have q3 := ta_DD
  go_enter Tryz.func28, Tryz.ntmps28
  go_wp2
  go_returns
  exact ⟨rfl, rfl⟩

set_option maxRecDepth 100000 in
theorem evalBool_ge (g l c : Nat) (v x : Int) (w : World) (h11 : w.cell? ⟨g, 11, none⟩ = some (.string ⟨#[62, 61]⟩)) (h12 : w.cell? ⟨g, 12, none⟩ = some (.iface 39 (.pointer (some ⟨l, 0, none⟩)))) (h13 : w.cell? ⟨g, 13, none⟩ = some (.iface 57 (.pointer (some ⟨c, 0, none⟩)))) (hl : w.cell? ⟨l, 11, none⟩ = some (.string ⟨#[120]⟩)) (hc : w.cell? ⟨c, 11, none⟩ = some (.int .i64 v)) :
    Calls Tryz.prog 17 #[(.iface 63 (.pointer (some ⟨g, 0, none⟩))), .int .i64 x] w fun e w' => e = .returned (.tuple #[.bool (decide (v ≤ x)), .bool true]) ∧ w = w' := by
  have q1 := ta_BB
  go_enter Tryz.func17, Tryz.ntmps17
  go_wp2_with (first | (go_at_call 28; (with_reducible refine (evalInt_int c v x _ hc).mono ?_); rintro e w1 ⟨rfl, rfl⟩) | (go_at_call 28; (with_reducible refine (evalInt_id l x _ hl).mono ?_); rintro e w1 ⟨rfl, rfl⟩))
  go_returns
  exact ⟨rfl, rfl⟩

set_option maxRecDepth 100000 in
theorem evalBool_le (g l c : Nat) (v x : Int) (w : World) (h11 : w.cell? ⟨g, 11, none⟩ = some (.string ⟨#[60, 61]⟩)) (h12 : w.cell? ⟨g, 12, none⟩ = some (.iface 39 (.pointer (some ⟨l, 0, none⟩)))) (h13 : w.cell? ⟨g, 13, none⟩ = some (.iface 57 (.pointer (some ⟨c, 0, none⟩)))) (hl : w.cell? ⟨l, 11, none⟩ = some (.string ⟨#[120]⟩)) (hc : w.cell? ⟨c, 11, none⟩ = some (.int .i64 v)) :
    Calls Tryz.prog 17 #[(.iface 63 (.pointer (some ⟨g, 0, none⟩))), .int .i64 x] w fun e w' => e = .returned (.tuple #[.bool (decide (x ≤ v)), .bool true]) ∧ w = w' := by
  have q1 := ta_BB
  go_enter Tryz.func17, Tryz.ntmps17
  go_wp2_with (first | (go_at_call 28; (with_reducible refine (evalInt_int c v x _ hc).mono ?_); rintro e w1 ⟨rfl, rfl⟩) | (go_at_call 28; (with_reducible refine (evalInt_id l x _ hl).mono ?_); rintro e w1 ⟨rfl, rfl⟩))
  go_returns
  exact ⟨rfl, rfl⟩

set_option maxRecDepth 100000 in
theorem evalBool_and (a g h l c d : Nat) (lo hi x : Int) (w : World) (a11 : w.cell? ⟨a, 11, none⟩ = some (.string ⟨#[97, 110, 100]⟩)) (a12 : w.cell? ⟨a, 12, none⟩ = some (.iface 63 (.pointer (some ⟨g, 0, none⟩)))) (a13 : w.cell? ⟨a, 13, none⟩ = some (.iface 63 (.pointer (some ⟨h, 0, none⟩))))
    (g11 : w.cell? ⟨g, 11, none⟩ = some (.string ⟨#[62, 61]⟩)) (g12 : w.cell? ⟨g, 12, none⟩ = some (.iface 39 (.pointer (some ⟨l, 0, none⟩)))) (g13 : w.cell? ⟨g, 13, none⟩ = some (.iface 57 (.pointer (some ⟨c, 0, none⟩))))
    (h11 : w.cell? ⟨h, 11, none⟩ = some (.string ⟨#[60, 61]⟩)) (h12 : w.cell? ⟨h, 12, none⟩ = some (.iface 39 (.pointer (some ⟨l, 0, none⟩)))) (h13 : w.cell? ⟨h, 13, none⟩ = some (.iface 57 (.pointer (some ⟨d, 0, none⟩))))
    (hl : w.cell? ⟨l, 11, none⟩ = some (.string ⟨#[120]⟩)) (hc : w.cell? ⟨c, 11, none⟩ = some (.int .i64 lo)) (hd : w.cell? ⟨d, 11, none⟩ = some (.int .i64 hi)) :
    Calls Tryz.prog 17 #[(.iface 63 (.pointer (some ⟨a, 0, none⟩))), .int .i64 x] w fun e w' => e = .returned (.tuple #[.bool (decide (lo ≤ x) && decide (x ≤ hi)), .bool true]) ∧ w = w' := by
  have q1 := ta_BB
  by_cases hlx : lo ≤ x
  · have hq : Hid (decide (lo ≤ x) = true) := by show decide (lo ≤ x) = true; simpa using hlx
    go_enter Tryz.func17, Tryz.ntmps17
    go_wp2_with (first | (go_at_call 17; (with_reducible refine (evalBool_ge g l c lo x _ g11 g12 g13 hl hc).mono ?_); rintro e w1 ⟨rfl, rfl⟩) | (go_at_call 17; (with_reducible refine (evalBool_le h l d hi x _ h11 h12 h13 hl hd).mono ?_); rintro e w1 ⟨rfl, rfl⟩))
    go_returns
    exact ⟨by rw [hq.out]; rfl, rfl⟩
  · have hq : Hid (decide (lo ≤ x) = false) := by show decide (lo ≤ x) = false; simpa using hlx
    go_enter Tryz.func17, Tryz.ntmps17
    go_wp2_with (first | (go_at_call 17; (with_reducible refine (evalBool_ge g l c lo x _ g11 g12 g13 hl hc).mono ?_); rintro e w1 ⟨rfl, rfl⟩) | (go_at_call 17; (with_reducible refine (evalBool_le h l d hi x _ h11 h12 h13 hl hd).mono ?_); rintro e w1 ⟨rfl, rfl⟩))
    go_returns
    exact ⟨by rw [hq.out]; rfl, rfl⟩

set_option maxRecDepth 100000 in
theorem evalBool_in (a g l c d : Nat) (lo hi x : Int) (w : World) (a11 : w.cell? ⟨a, 11, none⟩ = some (.string ⟨#[105, 110]⟩)) (a12 : w.cell? ⟨a, 12, none⟩ = some (.iface 39 (.pointer (some ⟨l, 0, none⟩)))) (a13 : w.cell? ⟨a, 13, none⟩ = some (.iface 63 (.pointer (some ⟨g, 0, none⟩))))
    (g11 : w.cell? ⟨g, 11, none⟩ = some (.string ⟨#[46, 46]⟩)) (g12 : w.cell? ⟨g, 12, none⟩ = some (.iface 57 (.pointer (some ⟨c, 0, none⟩)))) (g13 : w.cell? ⟨g, 13, none⟩ = some (.iface 57 (.pointer (some ⟨d, 0, none⟩))))
    (hl : w.cell? ⟨l, 11, none⟩ = some (.string ⟨#[120]⟩)) (hc : w.cell? ⟨c, 11, none⟩ = some (.int .i64 lo)) (hd : w.cell? ⟨d, 11, none⟩ = some (.int .i64 hi)) :
    Calls Tryz.prog 17 #[(.iface 63 (.pointer (some ⟨a, 0, none⟩))), .int .i64 x] w fun e w' => e = .returned (.tuple #[.bool (decide (lo ≤ x) && decide (x ≤ hi)), .bool true]) ∧ w = w' := by
  have q1 := ta_BB
  by_cases hlx : lo ≤ x
  · have hq : Hid (decide (lo ≤ x) = true) := by show decide (lo ≤ x) = true; simpa using hlx
    go_enter Tryz.func17, Tryz.ntmps17
    go_wp2_with (first | (go_at_call 28; (with_reducible refine (evalInt_int c lo x _ hc).mono ?_); rintro e w1 ⟨rfl, rfl⟩) | (go_at_call 28; (with_reducible refine (evalInt_int d hi x _ hd).mono ?_); rintro e w1 ⟨rfl, rfl⟩) | (go_at_call 28; (with_reducible refine (evalInt_id l x _ hl).mono ?_); rintro e w1 ⟨rfl, rfl⟩))
    go_returns
    exact ⟨by rw [hq.out]; rfl, rfl⟩
  · have hq : Hid (decide (lo ≤ x) = false) := by show decide (lo ≤ x) = false; simpa using hlx
    go_enter Tryz.func17, Tryz.ntmps17
    go_wp2_with (first | (go_at_call 28; (with_reducible refine (evalInt_int c lo x _ hc).mono ?_); rintro e w1 ⟨rfl, rfl⟩) | (go_at_call 28; (with_reducible refine (evalInt_int d hi x _ hd).mono ?_); rintro e w1 ⟨rfl, rfl⟩) | (go_at_call 28; (with_reducible refine (evalInt_id l x _ hl).mono ?_); rintro e w1 ⟨rfl, rfl⟩))
    go_returns
    exact ⟨by rw [hq.out]; rfl, rfl⟩

end Go.Proofs.YthhijnemlhjpgaaGreat

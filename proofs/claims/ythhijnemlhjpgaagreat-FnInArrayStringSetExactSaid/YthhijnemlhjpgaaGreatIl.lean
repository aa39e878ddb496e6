/-
  What is proved here: the walk of FnInRangeRewriteKeepsMembership.
-/
import Derived.Test.YthhijnemlhjpgaaGreatIr
namespace Go.Proofs.YthhijnemlhjpgaaGreat
open Go.ChangeShapes Go.WideShapes Go.ChangeAt Go.RowKit Go.Extern
set_option linter.unusedVariables false

theorem bounds8 (a : Int) (h : (Lit.int .i8 a).wf = true) : -128 ≤ a ∧ a ≤ 127 := by
  simp [Lit.wf, IntKind.min, IntKind.max, IntKind.signed, IntKind.bits] at h
  omega

theorem Mod.grown {T : Nat → Nat → Prop} {w a b : World} (g : Grown w a) (h : Mod T a b) (hT : ∀ k o, T k o → w.heap.size ≤ k) : Grown w b := by
  obtain ⟨⟨g1, g2, g3⟩, g4, g5⟩ := g
  refine ⟨⟨h.os.trans g1, h.output.trans g2, fun i hi => ?_⟩, fun x => (h.frozen x).trans (g4 x), Nat.le_trans g5 h.size⟩
  rw [h.block i (by omega) (fun o t => by have := hT i o t; omega)]
  exact g3 i hi

def AndTree (w : World) (r : Nat) (lo hi : Int) : Prop := ∃ a g h l c d : Nat, w.cell? ⟨r, 0, none⟩ = some (.iface 63 (.pointer (some ⟨a, 0, none⟩))) ∧ w.cell? ⟨a, 11, none⟩ = some (.string ⟨#[97, 110, 100]⟩) ∧ w.cell? ⟨a, 12, none⟩ = some (.iface 63 (.pointer (some ⟨g, 0, none⟩))) ∧ w.cell? ⟨a, 13, none⟩ = some (.iface 63 (.pointer (some ⟨h, 0, none⟩))) ∧ w.cell? ⟨g, 11, none⟩ = some (.string ⟨#[62, 61]⟩) ∧ w.cell? ⟨g, 12, none⟩ = some (.iface 39 (.pointer (some ⟨l, 0, none⟩))) ∧ w.cell? ⟨g, 13, none⟩ = some (.iface 57 (.pointer (some ⟨c, 0, none⟩))) ∧ w.cell? ⟨h, 11, none⟩ = some (.string ⟨#[60, 61]⟩) ∧ w.cell? ⟨h, 12, none⟩ = some (.iface 39 (.pointer (some ⟨l, 0, none⟩))) ∧ w.cell? ⟨h, 13, none⟩ = some (.iface 57 (.pointer (some ⟨d, 0, none⟩))) ∧ w.cell? ⟨l, 11, none⟩ = some (.string ⟨#[120]⟩) ∧ w.cell? ⟨c, 11, none⟩ = some (.int .i64 lo) ∧ w.cell? ⟨d, 11, none⟩ = some (.int .i64 hi)

set_option maxRecDepth 100000 in
set_option maxHeartbeats 2000000 in
theorem law_one (x lo hi k : Int) (w : World) (hk : Hid (zm k = 1)) (h1 : -128 ≤ k) (h2 : k ≤ 127) :
    Calls Tryz.prog 5 #[.int .i64 x, .int .i64 lo, .int .i64 hi, .int .i8 k] w fun e w' => e = .returned (.bool true) ∧ Grown w w' := by
  have q1 := ta_BB
  have q2 := ta_II
  have t1 := invokeKind
  have t2 := kind_int
  have t3 := nilKind
  have t4 := rt_eq_nil
  go_enter Tryz.func5, Tryz.ntmps5
  go_wp2_with (first | (go_at_call 8; (with_reducible refine (zmod_any _ _ h1 h2).mono ?_); rintro e w1 ⟨rfl, rfl⟩; rw [hk.out]) | (go_at_call 9; (with_reducible refine (typedLeft_1 _).mono ?_); rintro e w1 ⟨rfl, rfl⟩))
  go_wp2_with (first | (go_at_call 29; (with_reducible refine (anyType_calls _).mono ?_); rintro e w1 ⟨rfl, rfl⟩) | (go_at_call 20; go_call (type_some _ 112 (.pointer (some ⟨0, 3, none⟩)) _) as e w1 ⟨rfl, rfl⟩) | go_in)
  go_region_with (go_at_call 34; go_call (patch_bin _ (w.heap.size + 1 + 1 + 1 + 1 + 1 + 1) _ _) as e w1 ⟨rfl, hm, hroot⟩)
  all_goals
    have hg : Grown w w1 := Mod.grown (by go_grown) hm (fun k o t => by unfold PT at t; omega)
    have ht : AndTree w1 (w.heap.size + 1 + 1 + 1 + 1 + 1 + 1 + 1) lo hi := by
      first
      | ((refine ⟨_, w.heap.size + 1 + 1 + 1 + 1 + 1 + 1 + 1 + 1 + 1, w.heap.size + 1 + 1 + 1 + 1 + 1 + 1 + 1 + 1 + 1 + 1, w.heap.size, w.heap.size + 1 + 1 + 1, w.heap.size + 1 + 1 + 1 + 1, hroot, ?_, ?_, ?_, ?_, ?_, ?_, ?_, ?_, ?_, ?_, ?_, ?_⟩) <;> ((refine hm.get ?hk ?hT ?hc); (case hk => go_size); (case hT => unfold PT; omega); (case hc => go_cell)))
      | ((refine ⟨_, w.heap.size + 1 + 1 + 1 + 1 + 1 + 1 + 1 + 1 + 1 + 1, w.heap.size + 1 + 1 + 1 + 1 + 1 + 1 + 1 + 1 + 1, w.heap.size, w.heap.size + 1 + 1 + 1, w.heap.size + 1 + 1 + 1 + 1, hroot, ?_, ?_, ?_, ?_, ?_, ?_, ?_, ?_, ?_, ?_, ?_, ?_⟩) <;> ((refine hm.get ?hk ?hT ?hc); (case hk => go_size); (case hT => unfold PT; omega); (case hc => go_cell)))
    clear hm hroot
    obtain ⟨a, g, h, l, c, d, hr0, a11, a12, a13, g11, g12, g13, h11, h12, h13, hl, hc, hd⟩ := ht
    go_wp2_with (go_at_call 17; (with_reducible refine (evalBool_and a g h l c d lo hi x _ a11 a12 a13 g11 g12 g13 h11 h12 h13 hl hc hd).mono ?_); rintro e w2 ⟨rfl, rfl⟩)
    all_goals (go_ret; exact ⟨rfl, hg⟩)

set_option maxRecDepth 100000 in
set_option maxHeartbeats 2000000 in
theorem law_zero (x lo hi k : Int) (w : World) (hk : Hid (zm k = 0)) (h1 : -128 ≤ k) (h2 : k ≤ 127) :
    Calls Tryz.prog 5 #[.int .i64 x, .int .i64 lo, .int .i64 hi, .int .i8 k] w fun e w' => e = .returned (.bool true) ∧ Grown w w' := by
  have q1 := ta_BB
  have q2 := ta_II
  have t1 := invokeKind
  have t2 := kind_any
  have t3 := nilKind
  have t4 := rt_eq_nil
  go_enter Tryz.func5, Tryz.ntmps5
  go_wp2_with (first | (go_at_call 8; (with_reducible refine (zmod_any _ _ h1 h2).mono ?_); rintro e w1 ⟨rfl, rfl⟩; rw [hk.out]) | (go_at_call 9; (with_reducible refine (typedLeft_0 _).mono ?_); rintro e w1 ⟨rfl, rfl⟩))
  go_wp2_with (first | (go_at_call 20; go_call (type_none _ _) as e w1 ⟨rfl, rfl⟩) | (go_at_call 17; go_call (evalBool_in (w.heap.size + 1 + 1 + 1 + 1) (w.heap.size + 1 + 1 + 1) (w.heap.size) (w.heap.size + 1) (w.heap.size + 1 + 1) lo hi x _) as e w1 ⟨rfl, rfl⟩) | go_in)
  all_goals (go_ret; exact ⟨rfl, by go_grown⟩)

set_option maxRecDepth 100000 in
set_option maxHeartbeats 2000000 in
theorem law_two (x lo hi k : Int) (w : World) (hk : Hid (zm k = 2)) (h1 : -128 ≤ k) (h2 : k ≤ 127) :
    Calls Tryz.prog 5 #[.int .i64 x, .int .i64 lo, .int .i64 hi, .int .i8 k] w fun e w' => e = .returned (.bool true) ∧ Grown w w' := by
  have q1 := ta_BB
  have q2 := ta_II
  have t1 := invokeKind
  have t2 := kind_string
  have t3 := nilKind
  have t4 := rt_eq_nil
  go_enter Tryz.func5, Tryz.ntmps5
  go_wp2_with (first | (go_at_call 8; (with_reducible refine (zmod_any _ _ h1 h2).mono ?_); rintro e w1 ⟨rfl, rfl⟩; rw [hk.out]) | (go_at_call 9; (with_reducible refine (typedLeft_2 _).mono ?_); rintro e w1 ⟨rfl, rfl⟩))
  go_wp2_with (first | (go_at_call 20; go_call (type_some _ 112 (.pointer (some ⟨0, 9, none⟩)) _) as e w1 ⟨rfl, rfl⟩) | (go_at_call 17; go_call (evalBool_in (w.heap.size + 1 + 1 + 1 + 1 + 1 + 1) (w.heap.size + 1 + 1 + 1 + 1 + 1) (w.heap.size) (w.heap.size + 1 + 1 + 1) (w.heap.size + 1 + 1 + 1 + 1) lo hi x _) as e w1 ⟨rfl, rfl⟩) | go_in)
  all_goals (go_ret; exact ⟨rfl, by go_grown⟩)
end Go.Proofs.YthhijnemlhjpgaaGreat

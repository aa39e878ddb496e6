/-
  What is proved here: the walk of FnArrayEqualDepthModel: it returns true for all four ints, in a world that has only grown.
-/
import Derived.Test.YtmkbfmedkgilbaaGreatNest
namespace Go.Proofs.YtmkbfmedkgilbaaGreat
open Go.ChangeShapes Go.WideShapes Go.ChangeAt Go.RowKit

theorem dm_out (a0 a1 a2 a3 : Int) (w : World) (h : a0 < 0 ∨ 65536 < a0 ∨ a2 < 0 ∨ 65536 < a2) :
    Calls Tryz.prog 3 #[.int .i64 a0, .int .i64 a1, .int .i64 a2, .int .i64 a3] w fun e w' => e = .returned (.bool true) ∧ Grown w w' := by
  by_cases c0 : a0 < 0
  · go_enter Tryz.func3, Tryz.ntmps3
    go_wp2
    go_ret
    exact ⟨rfl, by go_grown⟩
  by_cases c1 : 65536 < a0
  · go_enter Tryz.func3, Tryz.ntmps3
    go_wp2
    go_ret
    exact ⟨rfl, by go_grown⟩
  by_cases c2 : a2 < 0
  · go_enter Tryz.func3, Tryz.ntmps3
    go_wp2
    go_ret
    exact ⟨rfl, by go_grown⟩
  · have c3 : 65536 < a2 := by omega
    go_enter Tryz.func3, Tryz.ntmps3
    go_wp2
    go_ret
    exact ⟨rfl, by go_grown⟩


theorem ret_true {a : Bool} (h : a = true) : Ending.returned (.bool a) = .returned (.bool true) := by rw [h]
theorem znest_at (d b : Nat) (x : Value) (w : World) (hb : b ≤ 2) (hd : d ≤ 65536) (hx : nest (baseV b w.heap.size) d = x) :
    Calls Tryz.prog 6 #[.int .i64 d, .int .i64 b] w fun e w' => e = .returned x ∧ baseW b w = w' := by
  subst hx; exact znest d b w hb hd

set_option maxRecDepth 100000 in
set_option maxHeartbeats 2000000 in
theorem dm_any (d2 b2 : Nat) (w : World) (h2 : d2 ≤ 65536) (hb2 : b2 ≤ 2) :
    Calls Tryz.prog 3 #[.int .i64 (0 : Nat), .int .i64 (0 : Nat), .int .i64 d2, .int .i64 b2] w fun e w' => e = .returned (.bool true) ∧ Grown w w' := by
  have hm1 := (baseW_has 0 w).grown (baseW_grown b2 _)
  have hm2 := baseW_has b2 (baseW 0 w)
  have hg0 := grown_trans (baseW_grown 0 w) (baseW_grown b2 _)
  have hc : Calls Tryz.prog 54 #[.agg #[], nest (baseV b2 (baseW 0 w).heap.size) d2] (baseW b2 (baseW 0 w)) fun e w' => e = .returned (.bool (eqT 0 0 d2 b2)) ∧ Grown (baseW b2 (baseW 0 w)) w' := any_eq d2 b2 _ _
  have hz := znest_at 0 0 (.iface 48 (.agg #[])) w (by omega) (by omega) rfl
  have hy := znest d2 b2 (baseW 0 w) hb2 h2
  clear hm1 hm2
  generalize nest (baseV b2 (baseW 0 w).heap.size) d2 = y at hc hy
  generalize baseW b2 (baseW 0 w) = W2 at hc hy hg0
  generalize hres : eqT 0 0 d2 b2 = res at hc
  generalize baseW 0 w = W1 at hz hy
  have HZ := Lib.hid hz; have HY := Lib.hid hy; have HC := Lib.hid hc; have HR := Lib.hid hres; clear hz hy hc hres
  have HG := Lib.hid hg0; clear hg0
  go_enter Tryz.func3, Tryz.ntmps3
  go_wp2_with fail
  refine HZ.out.mono ?_; rintro e w1 ⟨rfl, rfl⟩
  go_wp2_with fail
  refine HY.out.mono ?_; rintro e w1 ⟨rfl, rfl⟩
  go_wp2_with (go_at_call 54; refine HC.out.mono ?_; rintro e w1 ⟨rfl, hg⟩)
  all_goals
    go_ret
    refine ⟨?_, grown_trans HG.out hg⟩
  all_goals (refine ret_true ?_; rw [← HR.out]; clear HG HC HZ HY; rcases (show b2 = 0 ∨ b2 = 1 ∨ b2 = 2 by omega) with rfl | rfl | rfl <;> simp [eqT] <;> omega)

set_option maxRecDepth 100000 in
set_option maxHeartbeats 2000000 in
theorem dm_nil (d2 b2 : Nat) (w : World) (h2 : d2 ≤ 65536) (hb2 : b2 ≤ 2) :
    Calls Tryz.prog 3 #[.int .i64 (0 : Nat), .int .i64 (1 : Nat), .int .i64 d2, .int .i64 b2] w fun e w' => e = .returned (.bool true) ∧ Grown w w' := by
  have hm1 := (baseW_has 1 w).grown (baseW_grown b2 _)
  have hm2 := baseW_has b2 (baseW 1 w)
  have hg0 := grown_trans (baseW_grown 1 w) (baseW_grown b2 _)
  have hc : Calls Tryz.prog 57 #[.agg #[], nest (baseV b2 (baseW 1 w).heap.size) d2] (baseW b2 (baseW 1 w)) fun e w' => e = .returned (.bool (eqT 0 1 d2 b2)) ∧ Grown (baseW b2 (baseW 1 w)) w' := nil_eq d2 b2 _ _ hb2
  have hz := znest_at 0 1 (.iface 49 (.agg #[])) w (by omega) (by omega) rfl
  have hy := znest d2 b2 (baseW 1 w) hb2 h2
  clear hm1 hm2
  generalize nest (baseV b2 (baseW 1 w).heap.size) d2 = y at hc hy
  generalize baseW b2 (baseW 1 w) = W2 at hc hy hg0
  generalize hres : eqT 0 1 d2 b2 = res at hc
  generalize baseW 1 w = W1 at hz hy
  have HZ := Lib.hid hz; have HY := Lib.hid hy; have HC := Lib.hid hc; have HR := Lib.hid hres; clear hz hy hc hres
  have HG := Lib.hid hg0; clear hg0
  go_enter Tryz.func3, Tryz.ntmps3
  go_wp2_with fail
  refine HZ.out.mono ?_; rintro e w1 ⟨rfl, rfl⟩
  go_wp2_with fail
  refine HY.out.mono ?_; rintro e w1 ⟨rfl, rfl⟩
  go_wp2_with (go_at_call 57; refine HC.out.mono ?_; rintro e w1 ⟨rfl, hg⟩)
  all_goals
    go_ret
    refine ⟨?_, grown_trans HG.out hg⟩
  all_goals (refine ret_true ?_; rw [← HR.out]; clear HG HC HZ HY; rcases (show b2 = 0 ∨ b2 = 1 ∨ b2 = 2 by omega) with rfl | rfl | rfl <;> simp [eqT] <;> omega)

set_option maxRecDepth 100000 in
set_option maxHeartbeats 2000000 in
theorem dm_map (d2 b2 : Nat) (w : World) (h2 : d2 ≤ 65536) (hb2 : b2 ≤ 2) :
    Calls Tryz.prog 3 #[.int .i64 (0 : Nat), .int .i64 (2 : Nat), .int .i64 d2, .int .i64 b2] w fun e w' => e = .returned (.bool true) ∧ Grown w w' := by
  have hm1 := (baseW_has 2 w).grown (baseW_grown b2 _)
  have hm2 := baseW_has b2 (baseW 2 w)
  have hg0 := grown_trans (baseW_grown 2 w) (baseW_grown b2 _)
  have hc : Calls Tryz.prog 10 #[.map (some w.heap.size), nest (baseV b2 (baseW 2 w).heap.size) d2] (baseW b2 (baseW 2 w)) fun e w' => e = .returned (.bool (eqT 0 2 d2 b2)) ∧ Grown (baseW b2 (baseW 2 w)) w' := map_eq d2 b2 _ _ _ hb2 hm1 hm2
  have hz := znest_at 0 2 (.iface 45 (.map (some w.heap.size))) w (by omega) (by omega) rfl
  have hy := znest d2 b2 (baseW 2 w) hb2 h2
  clear hm1 hm2
  generalize nest (baseV b2 (baseW 2 w).heap.size) d2 = y at hc hy
  generalize baseW b2 (baseW 2 w) = W2 at hc hy hg0
  generalize hres : eqT 0 2 d2 b2 = res at hc
  generalize baseW 2 w = W1 at hz hy
  have HZ := Lib.hid hz; have HY := Lib.hid hy; have HC := Lib.hid hc; have HR := Lib.hid hres; clear hz hy hc hres
  have HG := Lib.hid hg0; clear hg0
  go_enter Tryz.func3, Tryz.ntmps3
  go_wp2_with fail
  refine HZ.out.mono ?_; rintro e w1 ⟨rfl, rfl⟩
  go_wp2_with fail
  refine HY.out.mono ?_; rintro e w1 ⟨rfl, rfl⟩
  go_wp2_with (go_at_call 10; refine HC.out.mono ?_; rintro e w1 ⟨rfl, hg⟩)
  all_goals
    go_ret
    refine ⟨?_, grown_trans HG.out hg⟩
  all_goals (refine ret_true ?_; rw [← HR.out]; clear HG HC HZ HY; rcases (show b2 = 0 ∨ b2 = 1 ∨ b2 = 2 by omega) with rfl | rfl | rfl <;> simp [eqT] <;> omega)

set_option maxRecDepth 100000 in
set_option maxHeartbeats 2000000 in
theorem dm_arr (n d1 b1 d2 b2 : Nat) (w : World) (hd : d1 = n + 1) (h1 : d1 ≤ 65536) (hb1 : b1 ≤ 2) (h2 : d2 ≤ 65536) (hb2 : b2 ≤ 2) :
    Calls Tryz.prog 3 #[.int .i64 (d1 : Nat), .int .i64 (b1 : Nat), .int .i64 d2, .int .i64 b2] w fun e w' => e = .returned (.bool true) ∧ Grown w w' := by
  have hpos : 1 ≤ d1 := by omega
  have hm1 := (baseW_has b1 w).grown (baseW_grown b2 _)
  have hm2 := baseW_has b2 (baseW b1 w)
  have hg0 := grown_trans (baseW_grown b1 w) (baseW_grown b2 _)
  have hc : Calls Tryz.prog 60 #[.agg #[nest (baseV b1 w.heap.size) n], nest (baseV b2 (baseW b1 w).heap.size) d2] (baseW b2 (baseW b1 w)) fun e w' => e = .returned (.bool (eqT d1 b1 d2 b2)) ∧ Grown (baseW b2 (baseW b1 w)) w' := (by rw [hd]; exact arr_eq n d2 b1 b2 _ _ _ hb1 hb2 hm1 hm2)
  have hz := znest_at d1 b1 (.iface 51 (.agg #[nest (baseV b1 w.heap.size) n])) w (by omega) (by omega) (by rw [hd]; rfl)
  have hy := znest d2 b2 (baseW b1 w) hb2 h2
  clear hm1 hm2
  generalize nest (baseV b2 (baseW b1 w).heap.size) d2 = y at hc hy
  generalize baseW b2 (baseW b1 w) = W2 at hc hy hg0
  generalize hres : eqT d1 b1 d2 b2 = res at hc
  generalize baseW b1 w = W1 at hz hy
  generalize nest (baseV b1 w.heap.size) n = x at hz hc
  have HZ := Lib.hid hz; have HY := Lib.hid hy; have HC := Lib.hid hc; have HR := Lib.hid hres; clear hz hy hc hres
  have HG := Lib.hid hg0; clear hg0
  have HD := Lib.hid hd; clear hd
  go_enter Tryz.func3, Tryz.ntmps3
  go_wp2_with fail
  refine HZ.out.mono ?_; rintro e w1 ⟨rfl, rfl⟩
  go_wp2_with fail
  refine HY.out.mono ?_; rintro e w1 ⟨rfl, rfl⟩
  go_wp2_with (go_at_call 60; refine HC.out.mono ?_; rintro e w1 ⟨rfl, hg⟩)
  all_goals
    go_ret
    refine ⟨?_, grown_trans HG.out hg⟩
  all_goals (refine ret_true ?_; rw [← HR.out]; clear HG HC HZ HY HD; rcases (show b1 = 0 ∨ b1 = 1 ∨ b1 = 2 by omega) with rfl | rfl | rfl <;> rcases (show b2 = 0 ∨ b2 = 1 ∨ b2 = 2 by omega) with rfl | rfl | rfl <;> simp [eqT] <;> omega)
end Go.Proofs.YtmkbfmedkgilbaaGreat

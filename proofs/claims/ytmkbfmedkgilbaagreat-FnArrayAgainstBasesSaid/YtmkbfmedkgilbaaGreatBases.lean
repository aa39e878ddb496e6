/-
  What is proved here: the walk of FnArrayAgainstBases: it returns true for all ints, in a world that has only grown.
-/
import Derived.Test.YtmkbfmedkgilbaaGreatRefl
import Derived.Deep.DeepCutAuto
namespace Go.Proofs.YtmkbfmedkgilbaaGreat
open Go.ChangeShapes Go.WideShapes Go.ChangeAt Go.RowKit

def W0 : Nat → World → Prop := fun _ _ => True

theorem noMap {w : World} {b : Nat} (r : Nat) (h : b ≠ 2) : HasMap w b r := fun e => absurd e h

theorem ab_7 (d b r : Nat) (W : World) (hb : b ≤ 2) (h : HasMap W b r) :
    Calls Tryz.prog 60 #[.agg #[nest (baseV b r) d], .iface 51 (.agg #[.iface 48 (.agg #[])])] W fun e w' => e = .returned (.bool true) ∧ Grown W w' := by
  have h := arr_eq d 1 b 0 r 0 W hb (by omega) h (noMap 0 (by omega))
  have e : eqT (d + 1) b 1 0 = true := by simp [eqT]
  rw [e] at h
  exact h
theorem ab_8 (d b r : Nat) (W : World) (hb : b ≤ 2) (h : HasMap W b r) :
    Calls Tryz.prog 60 #[.agg #[.iface 48 (.agg #[])], .iface 51 (.agg #[nest (baseV b r) d])] W fun e w' => e = .returned (.bool true) ∧ Grown W w' := by
  have h := arr_eq 0 (d + 1) 0 b 0 r W (by omega) hb (noMap 0 (by omega)) h
  have e : eqT (0 + 1) 0 (d + 1) b = true := by simp [eqT]
  rw [e] at h
  exact h
theorem ab_9 (d b r : Nat) (W : World) (hb : b ≤ 2) (h : HasMap W b r) :
    Calls Tryz.prog 60 #[.agg #[.iface 49 (.agg #[])], .iface 51 (.agg #[nest (baseV b r) d])] W fun e w' => e = .returned (.bool (decide (d = 0) && !decide (b = 2))) ∧ Grown W w' := by
  have h := arr_eq 0 (d + 1) 1 b 0 r W (by omega) hb (noMap 0 (by omega)) h
  have e : eqT (0 + 1) 1 (d + 1) b = (decide (d = 0) && !decide (b = 2)) := by
    rcases d with _ | d
    · rcases (show b = 0 ∨ b = 1 ∨ b = 2 by omega) with rfl | rfl | rfl <;> simp [eqT]
    · simp [eqT]
  rw [e] at h
  exact h

set_option maxRecDepth 100000 in
set_option maxHeartbeats 4000000 in
theorem ab_in (d b : Nat) (z : Bool) (w : World) (hd : d ≤ 65536) (hb : b ≤ 2) (hz0 : (decide (d = 0) && !decide (b = 2)) = z) :
    Calls Tryz.prog 5 #[.int .i64 d, .int .i64 b] w fun e w' => e = .returned (.bool true) ∧ Grown w w' := by
  have hm1 := baseW_has b w
  have hg0 := baseW_grown b w
  obtain ⟨ty, v, hx⟩ := nest_iface b w.heap.size d
  have hz := znest_at d b (.iface ty v) w hb hd hx
  have c7 := fun W (g : Grown (baseW b w) W) => absolve g (ab_7 d b _ W hb (hm1.grown g))
  have c8 := fun W (g : Grown (baseW b w) W) => absolve g (ab_8 d b _ W hb (hm1.grown g))
  have c9 := fun W (g : Grown (baseW b w) W) => absolve g (ab_9 d b _ W hb (hm1.grown g))
  rw [hx] at c7 c8 c9
  rw [hz0] at c9
  clear hm1 hx
  generalize baseW b w = W2 at hz hg0 c7 c8 c9
  have c1 := fun W (g : Grown W2 W) => absolve g (arr_any (.iface ty v) W)
  have c2 := fun t W (g : Grown W2 W) => absolve g (any_any t W)
  have c3 := fun W (g : Grown W2 W) => absolve g (arr_nil (.iface ty v) (.agg #[]) W)
  have c4 := fun W (g : Grown W2 W) => absolve g (nil_arr (.agg #[.iface ty v]) W)
  have c5 := fun r W (g : Grown W2 W) => absolve g (arr_map (.iface ty v) (.map (some r)) W)
  have c6 := fun r W (g : Grown W2 W) => absolve g (map_arr (.map (some r)) (.agg #[.iface ty v]) W)
  have HZ := Lib.hid hz; have HG := Lib.hid hg0; have HB := Lib.hid hz0; clear hz hg0 hz0
  have H1 := Lib.hid c1; have H2 := Lib.hid c2; have H3 := Lib.hid c3; have H4 := Lib.hid c4; have H5 := Lib.hid c5; have H6 := Lib.hid c6
  have H7 := Lib.hid c7; have H8 := Lib.hid c8; have H9 := Lib.hid c9
  clear c1 c2 c3 c4 c5 c6 c7 c8 c9
  have n1 := na48; have n2 := na49; have n3 := na45; have n4 := na51
  have m1 := me48; have m2 := me49; have m3 := me45; have m4 := me51
  have hmm := @run_makeMap Tryz.prog
  go_enter Tryz.func5, Tryz.ntmps5
  go_wp2_with fail
  refine HZ.out.mono ?_; rintro e w1 ⟨rfl, rfl⟩
  go_wp2_with fail
  refine (zarray _ _ _).mono ?_; rintro e w1 ⟨rfl, rfl⟩
  have g0 := Grown.refl W2
  go_upto_region 7 with fail
  go_cut [36] (fun s wx => s = .bool false ∧ Grown W2 wx)
  case first =>
    go_region_with (first | (go_at_call 7; refine (zany _).mono ?_; rintro e w1 ⟨rfl, rfl⟩) | (go_at_call 8; refine (znil _).mono ?_; rintro e w1 ⟨rfl, rfl⟩) | (go_at_call 9; refine (zarray _ _ _).mono ?_; rintro e w1 ⟨rfl, rfl⟩) | (go_at_call 60; (with_reducible refine (H1.out _ ?_).mono ?_); (first | assumption | (refine Grown.drew ?_; assumption)); rintro e wq ⟨rfl, gq⟩) | (go_at_call 54; (with_reducible refine (H2.out _ _ ?_).mono ?_); (first | assumption | (refine Grown.drew ?_; assumption)); rintro e wq ⟨rfl, gq⟩))
    all_goals (go_wp2_with fail; go_meet; exact ⟨rfl, by assumption⟩)
  case rest =>
  obtain ⟨rfl, g1⟩ := hcut
  go_upto_region 9 with fail
  go_cut [47] (fun s wx => s = .bool false ∧ Grown W2 wx)
  case first =>
    go_region_with (first | (go_at_call 7; refine (zany _).mono ?_; rintro e w1 ⟨rfl, rfl⟩) | (go_at_call 8; refine (znil _).mono ?_; rintro e w1 ⟨rfl, rfl⟩) | (go_at_call 9; refine (zarray _ _ _).mono ?_; rintro e w1 ⟨rfl, rfl⟩) | (go_at_call 60; (with_reducible refine (H3.out _ ?_).mono ?_); (first | assumption | (refine Grown.drew ?_; assumption)); rintro e wq ⟨rfl, gq⟩) | (go_at_call 57; (with_reducible refine (H4.out _ ?_).mono ?_); (first | assumption | (refine Grown.drew ?_; assumption)); rintro e wq ⟨rfl, gq⟩))
    all_goals (go_wp2_with fail; go_meet; exact ⟨rfl, by assumption⟩)
  case rest =>
  obtain ⟨rfl, g2⟩ := hcut
  go_wp2_with fail
  refine (H5.out _ _ (Grown.allocMap g2 _ _)).mono ?_; rintro e w3 ⟨rfl, g3⟩
  go_wp2_with fail
  refine (H6.out _ _ (Grown.allocMap g3 _ _)).mono ?_; rintro e w4 ⟨rfl, g4⟩
  go_upto_region 13 with fail
  go_cut [71] (fun s wx => s = .bool false ∧ Grown W2 wx)
  case first =>
    go_region_with (first | (go_at_call 7; refine (zany _).mono ?_; rintro e w1 ⟨rfl, rfl⟩) | (go_at_call 8; refine (znil _).mono ?_; rintro e w1 ⟨rfl, rfl⟩) | (go_at_call 9; refine (zarray _ _ _).mono ?_; rintro e w1 ⟨rfl, rfl⟩) | (go_at_call 60; (with_reducible refine (H7.out _ ?_).mono ?_); (first | assumption | (refine Grown.drew ?_; assumption)); rintro e wq ⟨rfl, gq⟩) | (go_at_call 60; (with_reducible refine (H8.out _ ?_).mono ?_); (first | assumption | (refine Grown.drew ?_; assumption)); rintro e wq ⟨rfl, gq⟩))
    all_goals (go_wp2_with fail; go_meet; exact ⟨rfl, by assumption⟩)
  case rest =>
  obtain ⟨rfl, g5⟩ := hcut
  go_wp2_with fail
  refine (znil _).mono ?_; rintro e w6 ⟨rfl, rfl⟩
  go_wp2_with fail
  refine (zarray _ _ _).mono ?_; rintro e w6 ⟨rfl, rfl⟩
  go_wp2_with fail
  refine (H9.out _ g5).mono ?_; rintro e w6 ⟨rfl, g6⟩
  go_wp2_with fail
  · have h0 : d = 0 := by assumption
    go_ret
    refine ⟨ret_true ?_, grown_trans HG.out g6⟩
    rw [← HB.out, h0]
    clear HG HZ H1 H2 H3 H4 H5 H6 H7 H8 H9 HB
    rcases (show b = 0 ∨ b = 1 ∨ b = 2 by omega) with rfl | rfl | rfl <;> rfl
  · have h0 : ¬ d = 0 := by assumption
    go_ret
    refine ⟨ret_true ?_, grown_trans HG.out g6⟩
    rw [← HB.out]
    simp [h0]
end Go.Proofs.YtmkbfmedkgilbaaGreat

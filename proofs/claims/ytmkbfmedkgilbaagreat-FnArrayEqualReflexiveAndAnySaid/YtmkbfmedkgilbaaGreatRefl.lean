/-
  What is proved here: the walk of FnArrayEqualReflexiveAndAny: it returns true for all ints, in a world that has only grown.
-/
import Derived.Test.YtmkbfmedkgilbaaGreatDepth
import Derived.Deep.RegionWith
namespace Go.Proofs.YtmkbfmedkgilbaaGreat
open Go.ChangeShapes Go.WideShapes Go.ChangeAt Go.RowKit

/-- a contract in a grown world, its end told of the first world. -/
theorem absolve {f : FuncId} {args : Array Value} {W2 W : World} {v : Bool} (g : Grown W2 W) (h : Calls Tryz.prog f args W fun e w' => e = .returned (.bool v) ∧ Grown W w') :
    Calls Tryz.prog f args W fun e w' => e = .returned (.bool v) ∧ Grown W2 w' :=
  h.mono fun _ _ ⟨he, hg⟩ => ⟨he, grown_trans g hg⟩

theorem na48 (v : Value) (w : World) : (nilAhead 506 48 v "Equal").run Tryz.prog w = .ok (some false) w := by kernel_rfl
theorem me48 (w : World) : (Go.method 506 48 (.agg #[]) "Equal").run Tryz.prog w = .ok (54, (.agg #[])) w := by kernel_rfl
theorem na49 (v : Value) (w : World) : (nilAhead 506 49 v "Equal").run Tryz.prog w = .ok (some false) w := by kernel_rfl
theorem me49 (w : World) : (Go.method 506 49 (.agg #[]) "Equal").run Tryz.prog w = .ok (57, (.agg #[])) w := by kernel_rfl
theorem na45 (v : Value) (w : World) : (nilAhead 506 45 v "Equal").run Tryz.prog w = .ok (some false) w := by kernel_rfl
theorem me45 (w : World) (r : Option Nat) : (Go.method 506 45 (.map r) "Equal").run Tryz.prog w = .ok (10, (.map r)) w := by kernel_rfl
theorem na51 (v : Value) (w : World) : (nilAhead 506 51 v "Equal").run Tryz.prog w = .ok (some false) w := by kernel_rfl
theorem me51 (w : World) (x : Value) : (Go.method 506 51 (.agg #[x]) "Equal").run Tryz.prog w = .ok (60, (.agg #[x])) w := by kernel_rfl
theorem eqT_refl (d b : Nat) : eqT d b d b = true := by simp [eqT]
theorem eqT_any (d b : Nat) : eqT d b 0 0 = true := by simp [eqT]

theorem rx_any (r1 r2 : Nat) (W : World) (h1 : HasMap W 0 r1) (h2 : HasMap W 0 r2) :
    Calls Tryz.prog 54 #[.agg #[], (.iface 48 (.agg #[]))] W fun e w' => e = .returned (.bool true) ∧ Grown W w' := by
  have h : Calls Tryz.prog 54 #[.agg #[], nest (baseV 0 r2) 0] W fun e w' => e = .returned (.bool (eqT 0 0 0 0)) ∧ Grown W w' := any_eq 0 0 r2 W
  rw [eqT_refl] at h
  exact h

theorem ra_any (r1 : Nat) (W : World) (h1 : HasMap W 0 r1) :
    Calls Tryz.prog 54 #[.agg #[], .iface 48 (.agg #[])] W fun e w' => e = .returned (.bool true) ∧ Grown W w' := by
  have h : Calls Tryz.prog 54 #[.agg #[], nest (baseV 0 0) 0] W fun e w' => e = .returned (.bool (eqT 0 0 0 0)) ∧ Grown W w' := any_eq 0 0 0 W
  rw [eqT_any] at h
  exact h

theorem rn_any (r : Nat) (W : World) :
    Calls Tryz.prog 57 #[.agg #[], (.iface 48 (.agg #[]))] W fun e w' => e = .returned (.bool (decide (0 = 0) && !decide (0 = 2))) ∧ Grown W w' := by
  have h : Calls Tryz.prog 57 #[.agg #[], nest (baseV 0 r) 0] W fun e w' => e = .returned (.bool (eqT 0 1 0 0)) ∧ Grown W w' := nil_eq 0 0 r W (by omega)
  have e : eqT 0 1 0 0 = (decide (0 = 0) && !decide (0 = 2)) := by simp [eqT]
  rw [e] at h
  exact h

set_option maxRecDepth 100000 in
set_option maxHeartbeats 2000000 in
theorem rl_any (w : World) :
    Calls Tryz.prog 4 #[.int .i64 (0 : Nat), .int .i64 (0 : Nat)] w fun e w' => e = .returned (.bool true) ∧ Grown w w' := by
  have hm1 := (baseW_has 0 w).grown (baseW_grown 0 _)
  have hm2 := baseW_has 0 (baseW 0 w)
  have hg0 := grown_trans (baseW_grown 0 w) (baseW_grown 0 _)
  have hz := znest_at 0 0 (.iface 48 (.agg #[])) w (by omega) (by omega) rfl
  have hy := znest_at 0 0 (.iface 48 (.agg #[])) (baseW 0 w) (by omega) (by omega) rfl
  generalize baseW 0 (baseW 0 w) = W2 at hy hg0 hm1 hm2
  generalize (baseW 0 w).heap.size = r2 at hy hm2
  generalize hr1 : w.heap.size = r1 at hz hm1
  generalize baseW 0 w = W1 at hz hy
  have c1 := fun W (g : Grown W2 W) => absolve g (rx_any r1 r1 W (hm1.grown g) (hm1.grown g))
  have c2 := fun W (g : Grown W2 W) => absolve g (rx_any r1 r2 W (hm1.grown g) (hm2.grown g))
  have c3 := fun W (g : Grown W2 W) => absolve g (rx_any r2 r1 W (hm2.grown g) (hm1.grown g))
  have c4 := fun W (g : Grown W2 W) => absolve g (ra_any r1 W (hm1.grown g))
  have c5 := fun t W (g : Grown W2 W) => absolve g (any_any t W)
  have c6 := fun W (g : Grown W2 W) => absolve g (rn_any r1 W )
  simp only [decide_true, Bool.true_and] at c6
  clear hm1 hm2 hr1
  have HZ := Lib.hid hz; have HY := Lib.hid hy; have HG := Lib.hid hg0; clear hz hy hg0
  have H1 := Lib.hid c1; have H2 := Lib.hid c2; have H3 := Lib.hid c3; have H4 := Lib.hid c4; have H5 := Lib.hid c5; have H6 := Lib.hid c6
  clear c1 c2 c3 c4 c5 c6
  have n1 := na48; have n2 := na49; have n3 := na45; have n4 := na51
  have m1 := me48; have m2 := me49; have m3 := me45; have m4 := me51
  go_enter Tryz.func4, Tryz.ntmps4
  go_wp2_with fail
  refine HZ.out.mono ?_; rintro e w1 ⟨rfl, rfl⟩
  go_wp2_with fail
  refine HY.out.mono ?_; rintro e w1 ⟨rfl, rfl⟩
  go_wp2_with fail
  refine (H1.out _ (Grown.refl _)).mono ?_; rintro e wa ⟨rfl, ga⟩
  go_wp2_with fail
  refine (H2.out _ ga).mono ?_; rintro e wb ⟨rfl, gb⟩
  clear ga
  go_wp2_with fail
  refine (H3.out _ gb).mono ?_; rintro e wc ⟨rfl, gc⟩
  clear gb
  go_wp2_with fail
  go_region_with (first | (go_at_call 7; refine (zany _).mono ?_; rintro e w1 ⟨rfl, rfl⟩) | (go_at_call_of 54 (Value.iface 48 (.agg #[])); refine (H4.out _ ?_).mono ?_; exact Grown.drew gc; rintro e wd ⟨rfl, gd⟩) | (go_at_call 54; refine (H5.out _ _ ?_).mono ?_; (first | assumption | exact Grown.drew gc); rintro e we ⟨rfl, ge⟩))
  all_goals go_wp2_with (first | (go_at_call 8; refine (znil _).mono ?_; rintro e w1 ⟨rfl, rfl⟩) | (go_at_call 57; refine (H6.out _ ?_).mono ?_; assumption; rintro e wf ⟨rfl, gf⟩))
  all_goals (go_ret; exact ⟨rfl, grown_trans HG.out gf⟩)

theorem rx_nil (r1 r2 : Nat) (W : World) (h1 : HasMap W 1 r1) (h2 : HasMap W 1 r2) :
    Calls Tryz.prog 57 #[.agg #[], (.iface 49 (.agg #[]))] W fun e w' => e = .returned (.bool true) ∧ Grown W w' := by
  have h : Calls Tryz.prog 57 #[.agg #[], nest (baseV 1 r2) 0] W fun e w' => e = .returned (.bool (eqT 0 1 0 1)) ∧ Grown W w' := nil_eq 0 1 r2 W (by omega)
  rw [eqT_refl] at h
  exact h

theorem ra_nil (r1 : Nat) (W : World) (h1 : HasMap W 1 r1) :
    Calls Tryz.prog 57 #[.agg #[], .iface 48 (.agg #[])] W fun e w' => e = .returned (.bool true) ∧ Grown W w' := by
  have h : Calls Tryz.prog 57 #[.agg #[], nest (baseV 0 0) 0] W fun e w' => e = .returned (.bool (eqT 0 1 0 0)) ∧ Grown W w' := nil_eq 0 0 0 W (by omega)
  rw [eqT_any] at h
  exact h

theorem rn_nil (r : Nat) (W : World) :
    Calls Tryz.prog 57 #[.agg #[], (.iface 49 (.agg #[]))] W fun e w' => e = .returned (.bool (decide (0 = 0) && !decide (1 = 2))) ∧ Grown W w' := by
  have h : Calls Tryz.prog 57 #[.agg #[], nest (baseV 1 r) 0] W fun e w' => e = .returned (.bool (eqT 0 1 0 1)) ∧ Grown W w' := nil_eq 0 1 r W (by omega)
  have e : eqT 0 1 0 1 = (decide (0 = 0) && !decide (1 = 2)) := by simp [eqT]
  rw [e] at h
  exact h

set_option maxRecDepth 100000 in
set_option maxHeartbeats 2000000 in
theorem rl_nil (w : World) :
    Calls Tryz.prog 4 #[.int .i64 (0 : Nat), .int .i64 (1 : Nat)] w fun e w' => e = .returned (.bool true) ∧ Grown w w' := by
  have hm1 := (baseW_has 1 w).grown (baseW_grown 1 _)
  have hm2 := baseW_has 1 (baseW 1 w)
  have hg0 := grown_trans (baseW_grown 1 w) (baseW_grown 1 _)
  have hz := znest_at 0 1 (.iface 49 (.agg #[])) w (by omega) (by omega) rfl
  have hy := znest_at 0 1 (.iface 49 (.agg #[])) (baseW 1 w) (by omega) (by omega) rfl
  generalize baseW 1 (baseW 1 w) = W2 at hy hg0 hm1 hm2
  generalize (baseW 1 w).heap.size = r2 at hy hm2
  generalize hr1 : w.heap.size = r1 at hz hm1
  generalize baseW 1 w = W1 at hz hy
  have c1 := fun W (g : Grown W2 W) => absolve g (rx_nil r1 r1 W (hm1.grown g) (hm1.grown g))
  have c2 := fun W (g : Grown W2 W) => absolve g (rx_nil r1 r2 W (hm1.grown g) (hm2.grown g))
  have c3 := fun W (g : Grown W2 W) => absolve g (rx_nil r2 r1 W (hm2.grown g) (hm1.grown g))
  have c4 := fun W (g : Grown W2 W) => absolve g (ra_nil r1 W (hm1.grown g))
  have c5 := fun t W (g : Grown W2 W) => absolve g (any_any t W)
  have c6 := fun W (g : Grown W2 W) => absolve g (rn_nil r1 W )
  simp only [decide_true, Bool.true_and] at c6
  clear hm1 hm2 hr1
  have HZ := Lib.hid hz; have HY := Lib.hid hy; have HG := Lib.hid hg0; clear hz hy hg0
  have H1 := Lib.hid c1; have H2 := Lib.hid c2; have H3 := Lib.hid c3; have H4 := Lib.hid c4; have H5 := Lib.hid c5; have H6 := Lib.hid c6
  clear c1 c2 c3 c4 c5 c6
  have n1 := na48; have n2 := na49; have n3 := na45; have n4 := na51
  have m1 := me48; have m2 := me49; have m3 := me45; have m4 := me51
  go_enter Tryz.func4, Tryz.ntmps4
  go_wp2_with fail
  refine HZ.out.mono ?_; rintro e w1 ⟨rfl, rfl⟩
  go_wp2_with fail
  refine HY.out.mono ?_; rintro e w1 ⟨rfl, rfl⟩
  go_wp2_with fail
  refine (H1.out _ (Grown.refl _)).mono ?_; rintro e wa ⟨rfl, ga⟩
  go_wp2_with fail
  refine (H2.out _ ga).mono ?_; rintro e wb ⟨rfl, gb⟩
  clear ga
  go_wp2_with fail
  refine (H3.out _ gb).mono ?_; rintro e wc ⟨rfl, gc⟩
  clear gb
  go_wp2_with fail
  go_region_with (first | (go_at_call 7; refine (zany _).mono ?_; rintro e w1 ⟨rfl, rfl⟩) | (go_at_call_of 57 (Value.iface 48 (.agg #[])); refine (H4.out _ ?_).mono ?_; exact Grown.drew gc; rintro e wd ⟨rfl, gd⟩) | (go_at_call 54; refine (H5.out _ _ ?_).mono ?_; (first | assumption | exact Grown.drew gc); rintro e we ⟨rfl, ge⟩))
  all_goals go_wp2_with (first | (go_at_call 8; refine (znil _).mono ?_; rintro e w1 ⟨rfl, rfl⟩) | (go_at_call 57; refine (H6.out _ ?_).mono ?_; assumption; rintro e wf ⟨rfl, gf⟩))
  all_goals (go_ret; exact ⟨rfl, grown_trans HG.out gf⟩)

theorem rx_map (r1 r2 : Nat) (W : World) (h1 : HasMap W 2 r1) (h2 : HasMap W 2 r2) :
    Calls Tryz.prog 10 #[.map (some r1), (.iface 45 (.map (some r2)))] W fun e w' => e = .returned (.bool true) ∧ Grown W w' := by
  have h : Calls Tryz.prog 10 #[.map (some r1), nest (baseV 2 r2) 0] W fun e w' => e = .returned (.bool (eqT 0 2 0 2)) ∧ Grown W w' := map_eq 0 2 r2 r1 W (by omega) h1 h2
  rw [eqT_refl] at h
  exact h

theorem ra_map (r1 : Nat) (W : World) (h1 : HasMap W 2 r1) :
    Calls Tryz.prog 10 #[.map (some r1), .iface 48 (.agg #[])] W fun e w' => e = .returned (.bool true) ∧ Grown W w' := by
  have h : Calls Tryz.prog 10 #[.map (some r1), nest (baseV 0 0) 0] W fun e w' => e = .returned (.bool (eqT 0 2 0 0)) ∧ Grown W w' := map_eq 0 0 0 r1 W (by omega) h1 (fun h => absurd h (by omega))
  rw [eqT_any] at h
  exact h

theorem rn_map (r : Nat) (W : World) :
    Calls Tryz.prog 57 #[.agg #[], (.iface 45 (.map (some r)))] W fun e w' => e = .returned (.bool (decide (0 = 0) && !decide (2 = 2))) ∧ Grown W w' := by
  have h : Calls Tryz.prog 57 #[.agg #[], nest (baseV 2 r) 0] W fun e w' => e = .returned (.bool (eqT 0 1 0 2)) ∧ Grown W w' := nil_eq 0 2 r W (by omega)
  have e : eqT 0 1 0 2 = (decide (0 = 0) && !decide (2 = 2)) := by simp [eqT]
  rw [e] at h
  exact h

set_option maxRecDepth 100000 in
set_option maxHeartbeats 2000000 in
theorem rl_map (w : World) :
    Calls Tryz.prog 4 #[.int .i64 (0 : Nat), .int .i64 (2 : Nat)] w fun e w' => e = .returned (.bool true) ∧ Grown w w' := by
  have hm1 := (baseW_has 2 w).grown (baseW_grown 2 _)
  have hm2 := baseW_has 2 (baseW 2 w)
  have hg0 := grown_trans (baseW_grown 2 w) (baseW_grown 2 _)
  have hz := znest_at 0 2 (.iface 45 (.map (some w.heap.size))) w (by omega) (by omega) rfl
  have hy := znest_at 0 2 (.iface 45 (.map (some (baseW 2 w).heap.size))) (baseW 2 w) (by omega) (by omega) rfl
  generalize baseW 2 (baseW 2 w) = W2 at hy hg0 hm1 hm2
  generalize (baseW 2 w).heap.size = r2 at hy hm2
  generalize hr1 : w.heap.size = r1 at hz hm1
  generalize baseW 2 w = W1 at hz hy
  have c1 := fun W (g : Grown W2 W) => absolve g (rx_map r1 r1 W (hm1.grown g) (hm1.grown g))
  have c2 := fun W (g : Grown W2 W) => absolve g (rx_map r1 r2 W (hm1.grown g) (hm2.grown g))
  have c3 := fun W (g : Grown W2 W) => absolve g (rx_map r2 r1 W (hm2.grown g) (hm1.grown g))
  have c4 := fun W (g : Grown W2 W) => absolve g (ra_map r1 W (hm1.grown g))
  have c5 := fun t W (g : Grown W2 W) => absolve g (any_any t W)
  have c6 := fun W (g : Grown W2 W) => absolve g (rn_map r1 W )
  simp only [decide_true, Bool.true_and] at c6
  clear hm1 hm2 hr1
  have HZ := Lib.hid hz; have HY := Lib.hid hy; have HG := Lib.hid hg0; clear hz hy hg0
  have H1 := Lib.hid c1; have H2 := Lib.hid c2; have H3 := Lib.hid c3; have H4 := Lib.hid c4; have H5 := Lib.hid c5; have H6 := Lib.hid c6
  clear c1 c2 c3 c4 c5 c6
  have n1 := na48; have n2 := na49; have n3 := na45; have n4 := na51
  have m1 := me48; have m2 := me49; have m3 := me45; have m4 := me51
  go_enter Tryz.func4, Tryz.ntmps4
  go_wp2_with fail
  refine HZ.out.mono ?_; rintro e w1 ⟨rfl, rfl⟩
  go_wp2_with fail
  refine HY.out.mono ?_; rintro e w1 ⟨rfl, rfl⟩
  go_wp2_with fail
  refine (H1.out _ (Grown.refl _)).mono ?_; rintro e wa ⟨rfl, ga⟩
  go_wp2_with fail
  refine (H2.out _ ga).mono ?_; rintro e wb ⟨rfl, gb⟩
  clear ga
  go_wp2_with fail
  refine (H3.out _ gb).mono ?_; rintro e wc ⟨rfl, gc⟩
  clear gb
  go_wp2_with fail
  go_region_with (first | (go_at_call 7; refine (zany _).mono ?_; rintro e w1 ⟨rfl, rfl⟩) | (go_at_call_of 10 (Value.iface 48 (.agg #[])); refine (H4.out _ ?_).mono ?_; exact Grown.drew gc; rintro e wd ⟨rfl, gd⟩) | (go_at_call 54; refine (H5.out _ _ ?_).mono ?_; (first | assumption | exact Grown.drew gc); rintro e we ⟨rfl, ge⟩))
  all_goals go_wp2_with (first | (go_at_call 8; refine (znil _).mono ?_; rintro e w1 ⟨rfl, rfl⟩) | (go_at_call 57; refine (H6.out _ ?_).mono ?_; assumption; rintro e wf ⟨rfl, gf⟩))
  all_goals (go_ret; exact ⟨rfl, grown_trans HG.out gf⟩)

theorem rx_arr (n b : Nat) (r1 r2 : Nat) (W : World) (hb : b ≤ 2) (h1 : HasMap W b r1) (h2 : HasMap W b r2) :
    Calls Tryz.prog 60 #[.agg #[nest (baseV b r1) n], (.iface 51 (.agg #[nest (baseV b r2) n]))] W fun e w' => e = .returned (.bool true) ∧ Grown W w' := by
  have h : Calls Tryz.prog 60 #[.agg #[nest (baseV b r1) n], nest (baseV b r2) (n + 1)] W fun e w' => e = .returned (.bool (eqT (n + 1) b (n + 1) b)) ∧ Grown W w' := arr_eq n (n + 1) b b r1 r2 W (by omega) (by omega) h1 h2
  rw [eqT_refl] at h
  exact h

theorem ra_arr (n b : Nat) (r1 : Nat) (W : World) (hb : b ≤ 2) (h1 : HasMap W b r1) :
    Calls Tryz.prog 60 #[.agg #[nest (baseV b r1) n], .iface 48 (.agg #[])] W fun e w' => e = .returned (.bool true) ∧ Grown W w' := by
  have h : Calls Tryz.prog 60 #[.agg #[nest (baseV b r1) n], nest (baseV 0 0) 0] W fun e w' => e = .returned (.bool (eqT (n + 1) b 0 0)) ∧ Grown W w' := arr_eq n 0 b 0 r1 0 W (by omega) (by omega) h1 (fun h => absurd h (by omega))
  rw [eqT_any] at h
  exact h

theorem rn_arr (n b : Nat) (r : Nat) (W : World) (hb : b ≤ 2) :
    Calls Tryz.prog 57 #[.agg #[], (.iface 51 (.agg #[nest (baseV b r) n]))] W fun e w' => e = .returned (.bool (decide ((n + 1) = 0) && !decide (b = 2))) ∧ Grown W w' := by
  have h : Calls Tryz.prog 57 #[.agg #[], nest (baseV b r) (n + 1)] W fun e w' => e = .returned (.bool (eqT 0 1 (n + 1) b)) ∧ Grown W w' := nil_eq (n + 1) b r W (by omega)
  have e : eqT 0 1 (n + 1) b = (decide ((n + 1) = 0) && !decide (b = 2)) := by simp [eqT]
  rw [e] at h
  exact h

set_option maxRecDepth 100000 in
set_option maxHeartbeats 2000000 in
theorem rl_arr (n d b : Nat) (w : World) (hd : d = n + 1) (h1 : d ≤ 65536) (hb : b ≤ 2) :
    Calls Tryz.prog 4 #[.int .i64 (d : Nat), .int .i64 (b : Nat)] w fun e w' => e = .returned (.bool true) ∧ Grown w w' := by
  have hm1 := (baseW_has b w).grown (baseW_grown b _)
  have hm2 := baseW_has b (baseW b w)
  have hg0 := grown_trans (baseW_grown b w) (baseW_grown b _)
  have hz := znest_at d b (.iface 51 (.agg #[nest (baseV b w.heap.size) n])) w (by omega) (by omega) (by rw [hd]; rfl)
  have hy := znest_at d b (.iface 51 (.agg #[nest (baseV b (baseW b w).heap.size) n])) (baseW b w) (by omega) (by omega) (by rw [hd]; rfl)
  generalize baseW b (baseW b w) = W2 at hy hg0 hm1 hm2
  generalize (baseW b w).heap.size = r2 at hy hm2
  generalize hr1 : w.heap.size = r1 at hz hm1
  generalize baseW b w = W1 at hz hy
  have c1 := fun W (g : Grown W2 W) => absolve g (rx_arr n b r1 r1 W hb (hm1.grown g) (hm1.grown g))
  have c2 := fun W (g : Grown W2 W) => absolve g (rx_arr n b r1 r2 W hb (hm1.grown g) (hm2.grown g))
  have c3 := fun W (g : Grown W2 W) => absolve g (rx_arr n b r2 r1 W hb (hm2.grown g) (hm1.grown g))
  have c4 := fun W (g : Grown W2 W) => absolve g (ra_arr n b r1 W hb (hm1.grown g))
  have c5 := fun t W (g : Grown W2 W) => absolve g (any_any t W)
  have c6 := fun W (g : Grown W2 W) => absolve g (rn_arr n b r1 W hb )
  have e0 : decide (n + 1 = 0) = false := by simp
  simp only [e0, Bool.false_and] at c6
  generalize nest (baseV b r1) n = x at hz c1 c2 c3 c4 c6
  generalize nest (baseV b r2) n = y at hy c2 c3
  have hd0 : ((d : Int) == 0) = false := by rw [beq_eq_false_iff_ne]; omega
  clear hd e0
  clear hm1 hm2 hr1
  have HZ := Lib.hid hz; have HY := Lib.hid hy; have HG := Lib.hid hg0; clear hz hy hg0
  have H1 := Lib.hid c1; have H2 := Lib.hid c2; have H3 := Lib.hid c3; have H4 := Lib.hid c4; have H5 := Lib.hid c5; have H6 := Lib.hid c6
  clear c1 c2 c3 c4 c5 c6
  have n1 := na48; have n2 := na49; have n3 := na45; have n4 := na51
  have m1 := me48; have m2 := me49; have m3 := me45; have m4 := me51
  go_enter Tryz.func4, Tryz.ntmps4
  go_wp2_with fail
  refine HZ.out.mono ?_; rintro e w1 ⟨rfl, rfl⟩
  go_wp2_with fail
  refine HY.out.mono ?_; rintro e w1 ⟨rfl, rfl⟩
  go_wp2_with fail
  refine (H1.out _ (Grown.refl _)).mono ?_; rintro e wa ⟨rfl, ga⟩
  go_wp2_with fail
  refine (H2.out _ ga).mono ?_; rintro e wb ⟨rfl, gb⟩
  clear ga
  go_wp2_with fail
  refine (H3.out _ gb).mono ?_; rintro e wc ⟨rfl, gc⟩
  clear gb
  go_wp2_with fail
  go_region_with (first | (go_at_call 7; refine (zany _).mono ?_; rintro e w1 ⟨rfl, rfl⟩) | (go_at_call_of 60 (Value.iface 48 (.agg #[])); refine (H4.out _ ?_).mono ?_; exact Grown.drew gc; rintro e wd ⟨rfl, gd⟩) | (go_at_call 54; refine (H5.out _ _ ?_).mono ?_; (first | assumption | exact Grown.drew gc); rintro e we ⟨rfl, ge⟩))
  all_goals go_wp2_with (first | (go_at_call 8; refine (znil _).mono ?_; rintro e w1 ⟨rfl, rfl⟩) | (go_at_call 57; refine (H6.out _ ?_).mono ?_; assumption; rintro e wf ⟨rfl, gf⟩))
  all_goals (go_ret; exact ⟨rfl, grown_trans HG.out gf⟩)
end Go.Proofs.YtmkbfmedkgilbaaGreat

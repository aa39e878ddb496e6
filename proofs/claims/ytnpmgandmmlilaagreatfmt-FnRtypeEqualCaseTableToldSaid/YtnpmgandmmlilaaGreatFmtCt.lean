/-
  What is proved here: the walk of FnRtypeEqualCaseTable: it returns true for every two ints, in a world in which nothing that was there has turned.
-/
import Derived.Test.YtnpmgandmmlilaaGreatFmtPk
namespace Go.Proofs.YtnpmgandmmlilaaGreatFmt
open Go.ChangeShapes Go.WideShapes Go.ChangeAt Go.RowKit Go.Extern
set_option linter.unusedVariables false

theorem z_array (ty : TypeId) (x : Value) (w : World) : Calls Tryz.prog 10 #[.iface ty x] w fun e w' => e = .returned (.iface 67 (.agg #[.iface ty x])) ∧ w = w' := by
  go_enter Tryz.func10, Tryz.ntmps10
  go_wp2
  go_ret
  exact ⟨rfl, rfl⟩

theorem absolveB {f : FuncId} {args : Array Value} {W2 W : World} {v : Value} (g : Below W2.heap.size W2 W) (h : Calls Tryz.prog f args W fun e w' => e = .returned v ∧ Below W.heap.size W w') :
    Calls Tryz.prog f args W fun e w' => e = .returned v ∧ Below W2.heap.size W2 w' :=
  h.mono fun _ _ ⟨he, hg⟩ => ⟨he, grown_trans g hg⟩
theorem bel_alloc {a w : World} (h : Below a.heap.size a w) (o : Obj) : Below a.heap.size a (w.alloc o) := h.alloc h.size o

set_option maxRecDepth 100000 in
set_option maxHeartbeats 4000000 in
theorem ct_same (i j : Int) (a : Nat) (ha : a < 10) (hN : ∀ w, Calls Tryz.prog 8 #[.int .i64 i, .int .i64 10] w fun e w' => e = .returned (.int .i64 (a : Int)) ∧ w = w')
    (hM : ∀ w, Calls Tryz.prog 8 #[.int .i64 j, .int .i64 14] w fun e w' => e = .returned (.int .i64 (a : Int)) ∧ w = w') (w : World) :
    Calls Tryz.prog 3 #[.int .i64 i, .int .i64 j] w fun e w' => e = .returned (.bool true) ∧ Below w.heap.size w w' := by
  have HN := Lib.hid hN
  have HM := Lib.hid hM
  clear hN hM
  have e1 : eqS a (some a) = true := by simp [eqS]
  have HE := Lib.hid (show ∀ w : World, Calls Tryz.prog 96 #[rtV a, .iface 76 (rtV a)] w fun e w' => e = .returned (.bool true) ∧ Below w.heap.size w w' from fun w => by have h : Calls Tryz.prog 96 #[rtV a, pickV a] w _ := p_rt a (some a) ha (fun _ h => by cases h; omega) w; rw [e1, pickV_rt ha] at h; exact h)
  clear e1
  have t1 : ((a : Int) == 10) = false := by simp; omega
  have n1 : ∀ (v : Value) (w : World), (nilAhead 805 76 v "Equal").run Tryz.prog w = .ok (some false) w := fun v w => by kernel_rfl
  have m1 : ∀ (k : Nat) (w : World), (Go.method 805 76 (rtV k) "Equal").run Tryz.prog w = .ok (96, rtV k) w := fun k w => by kernel_rfl
  have g0 := Below.refl w.heap.size w
  go_enter Tryz.func3, Tryz.ntmps3
  go_wp2_with (first | (go_at_call 8; (with_reducible refine (HN.out _).mono ?_); rintro e w1 ⟨rfl, rfl⟩) | (go_at_call 8; (with_reducible refine (HM.out _).mono ?_); rintro e w1 ⟨rfl, rfl⟩) | (go_at_call 10; (with_reducible refine (z_array _ _ _).mono ?_); rintro e w1 ⟨rfl, rfl⟩) | (go_at_call 9; (with_reducible refine (absolveB (W2 := w) ?_ (pick_rt _ ha _)).mono ?_); (first | assumption | (repeat (first | assumption | refine Below.drew ?_ | refine bel_alloc ?_ _))); rintro e wq ⟨rfl, gq⟩) | (go_at_call 9; (with_reducible refine (absolveB (W2 := w) ?_ (pick_0 _)).mono ?_); (first | assumption | (repeat (first | assumption | refine Below.drew ?_ | refine bel_alloc ?_ _))); rintro e wq ⟨rfl, gq⟩) | (go_at_call 9; (with_reducible refine (absolveB (W2 := w) ?_ (pick_any _ (by omega) _)).mono ?_); (first | assumption | (repeat (first | assumption | refine Below.drew ?_ | refine bel_alloc ?_ _))); rintro e wq ⟨rfl, gq⟩) | (go_at_call 96; (with_reducible refine (absolveB (W2 := w) ?_ (HE.out _)).mono ?_); (first | assumption | (repeat (first | assumption | refine Below.drew ?_ | refine bel_alloc ?_ _))); rintro e wq ⟨rfl, gq⟩))
  all_goals go_ret
  all_goals exact ⟨rfl, by assumption⟩

set_option maxRecDepth 100000 in
set_option maxHeartbeats 4000000 in
theorem ct_other (i j : Int) (a : Nat) (b : Nat) (hb : b < 10) (hab : ¬ a = b) (ha : a < 10) (hN : ∀ w, Calls Tryz.prog 8 #[.int .i64 i, .int .i64 10] w fun e w' => e = .returned (.int .i64 (a : Int)) ∧ w = w')
    (hM : ∀ w, Calls Tryz.prog 8 #[.int .i64 j, .int .i64 14] w fun e w' => e = .returned (.int .i64 (b : Int)) ∧ w = w') (w : World) :
    Calls Tryz.prog 3 #[.int .i64 i, .int .i64 j] w fun e w' => e = .returned (.bool true) ∧ Below w.heap.size w w' := by
  have HN := Lib.hid hN
  have HM := Lib.hid hM
  clear hN hM
  have e1 : eqS a (some b) = false := by simp [eqS]; omega
  have HE := Lib.hid (show ∀ w : World, Calls Tryz.prog 96 #[rtV a, pickV b] w fun e w' => e = .returned (.bool false) ∧ Below w.heap.size w w' from fun w => by have h : Calls Tryz.prog 96 #[rtV a, pickV b] w _ := p_rt a (some b) ha (fun _ h => by cases h; omega) w; rw [e1] at h; exact h)
  clear e1
  have t1 : ((b : Int) == 10) = false := by simp; omega
  have t2 : ((a : Int) == (b : Int)) = false := by simp; omega
  have n1 : ∀ (v : Value) (w : World), (nilAhead 805 76 v "Equal").run Tryz.prog w = .ok (some false) w := fun v w => by kernel_rfl
  have m1 : ∀ (k : Nat) (w : World), (Go.method 805 76 (rtV k) "Equal").run Tryz.prog w = .ok (96, rtV k) w := fun k w => by kernel_rfl
  have g0 := Below.refl w.heap.size w
  go_enter Tryz.func3, Tryz.ntmps3
  go_wp2_with (first | (go_at_call 8; (with_reducible refine (HN.out _).mono ?_); rintro e w1 ⟨rfl, rfl⟩) | (go_at_call 8; (with_reducible refine (HM.out _).mono ?_); rintro e w1 ⟨rfl, rfl⟩) | (go_at_call 10; (with_reducible refine (z_array _ _ _).mono ?_); rintro e w1 ⟨rfl, rfl⟩) | (go_at_call 9; (with_reducible refine (absolveB (W2 := w) ?_ (pick_rt _ ha _)).mono ?_); (first | assumption | (repeat (first | assumption | refine Below.drew ?_ | refine bel_alloc ?_ _))); rintro e wq ⟨rfl, gq⟩) | (go_at_call 9; (with_reducible refine (absolveB (W2 := w) ?_ (pick_0 _)).mono ?_); (first | assumption | (repeat (first | assumption | refine Below.drew ?_ | refine bel_alloc ?_ _))); rintro e wq ⟨rfl, gq⟩) | (go_at_call 9; (with_reducible refine (absolveB (W2 := w) ?_ (pick_any _ (by omega) _)).mono ?_); (first | assumption | (repeat (first | assumption | refine Below.drew ?_ | refine bel_alloc ?_ _))); rintro e wq ⟨rfl, gq⟩) | (go_at_call 96; (with_reducible refine (absolveB (W2 := w) ?_ (HE.out _)).mono ?_); (first | assumption | (repeat (first | assumption | refine Below.drew ?_ | refine bel_alloc ?_ _))); rintro e wq ⟨rfl, gq⟩))
  all_goals go_ret
  all_goals exact ⟨rfl, by assumption⟩

set_option maxRecDepth 100000 in
set_option maxHeartbeats 4000000 in
theorem ct_any (i j : Int) (a : Nat) (ha : a < 10) (hN : ∀ w, Calls Tryz.prog 8 #[.int .i64 i, .int .i64 10] w fun e w' => e = .returned (.int .i64 (a : Int)) ∧ w = w')
    (hM : ∀ w, Calls Tryz.prog 8 #[.int .i64 j, .int .i64 14] w fun e w' => e = .returned (.int .i64 (10 : Int)) ∧ w = w') (w : World) :
    Calls Tryz.prog 3 #[.int .i64 i, .int .i64 j] w fun e w' => e = .returned (.bool true) ∧ Below w.heap.size w w' := by
  have HN := Lib.hid hN
  have HM := Lib.hid hM
  clear hN hM
  have e1 : eqS a (some 10) = true := by simp [eqS]
  have HE := Lib.hid (show ∀ w : World, Calls Tryz.prog 96 #[rtV a, .iface 69 (.agg #[])] w fun e w' => e = .returned (.bool true) ∧ Below w.heap.size w w' from fun w => by have h : Calls Tryz.prog 96 #[rtV a, pickV 10] w _ := p_rt a (some 10) ha (fun _ h => by cases h; omega) w; rw [e1] at h; exact h)
  clear e1
  have n1 : ∀ (v : Value) (w : World), (nilAhead 805 76 v "Equal").run Tryz.prog w = .ok (some false) w := fun v w => by kernel_rfl
  have m1 : ∀ (k : Nat) (w : World), (Go.method 805 76 (rtV k) "Equal").run Tryz.prog w = .ok (96, rtV k) w := fun k w => by kernel_rfl
  have g0 := Below.refl w.heap.size w
  go_enter Tryz.func3, Tryz.ntmps3
  go_wp2_with (first | (go_at_call 8; (with_reducible refine (HN.out _).mono ?_); rintro e w1 ⟨rfl, rfl⟩) | (go_at_call 8; (with_reducible refine (HM.out _).mono ?_); rintro e w1 ⟨rfl, rfl⟩) | (go_at_call 10; (with_reducible refine (z_array _ _ _).mono ?_); rintro e w1 ⟨rfl, rfl⟩) | (go_at_call 9; (with_reducible refine (absolveB (W2 := w) ?_ (pick_rt _ ha _)).mono ?_); (first | assumption | (repeat (first | assumption | refine Below.drew ?_ | refine bel_alloc ?_ _))); rintro e wq ⟨rfl, gq⟩) | (go_at_call 9; (with_reducible refine (absolveB (W2 := w) ?_ (pick_10 _)).mono ?_); (first | assumption | (repeat (first | assumption | refine Below.drew ?_ | refine bel_alloc ?_ _))); rintro e wq ⟨rfl, gq⟩) | (go_at_call 9; (with_reducible refine (absolveB (W2 := w) ?_ (pick_any _ (by omega) _)).mono ?_); (first | assumption | (repeat (first | assumption | refine Below.drew ?_ | refine bel_alloc ?_ _))); rintro e wq ⟨rfl, gq⟩) | (go_at_call 96; (with_reducible refine (absolveB (W2 := w) ?_ (HE.out _)).mono ?_); (first | assumption | (repeat (first | assumption | refine Below.drew ?_ | refine bel_alloc ?_ _))); rintro e wq ⟨rfl, gq⟩))
  all_goals go_ret
  all_goals exact ⟨rfl, by assumption⟩

set_option maxRecDepth 100000 in
set_option maxHeartbeats 4000000 in
theorem ct_nil (i j : Int) (a : Nat) (ha : a < 10) (hN : ∀ w, Calls Tryz.prog 8 #[.int .i64 i, .int .i64 10] w fun e w' => e = .returned (.int .i64 (a : Int)) ∧ w = w')
    (hM : ∀ w, Calls Tryz.prog 8 #[.int .i64 j, .int .i64 14] w fun e w' => e = .returned (.int .i64 (11 : Int)) ∧ w = w') (w : World) :
    Calls Tryz.prog 3 #[.int .i64 i, .int .i64 j] w fun e w' => e = .returned (.bool true) ∧ Below w.heap.size w w' := by
  have HN := Lib.hid hN
  have HM := Lib.hid hM
  clear hN hM
  have e1 : eqS a (some 11) = false := by simp [eqS]; omega
  have HE := Lib.hid (show ∀ w : World, Calls Tryz.prog 96 #[rtV a, .iface 71 (.agg #[])] w fun e w' => e = .returned (.bool false) ∧ Below w.heap.size w w' from fun w => by have h : Calls Tryz.prog 96 #[rtV a, pickV 11] w _ := p_rt a (some 11) ha (fun _ h => by cases h; omega) w; rw [e1] at h; exact h)
  clear e1
  have n1 : ∀ (v : Value) (w : World), (nilAhead 805 76 v "Equal").run Tryz.prog w = .ok (some false) w := fun v w => by kernel_rfl
  have m1 : ∀ (k : Nat) (w : World), (Go.method 805 76 (rtV k) "Equal").run Tryz.prog w = .ok (96, rtV k) w := fun k w => by kernel_rfl
  have g0 := Below.refl w.heap.size w
  go_enter Tryz.func3, Tryz.ntmps3
  go_wp2_with (first | (go_at_call 8; (with_reducible refine (HN.out _).mono ?_); rintro e w1 ⟨rfl, rfl⟩) | (go_at_call 8; (with_reducible refine (HM.out _).mono ?_); rintro e w1 ⟨rfl, rfl⟩) | (go_at_call 10; (with_reducible refine (z_array _ _ _).mono ?_); rintro e w1 ⟨rfl, rfl⟩) | (go_at_call 9; (with_reducible refine (absolveB (W2 := w) ?_ (pick_rt _ ha _)).mono ?_); (first | assumption | (repeat (first | assumption | refine Below.drew ?_ | refine bel_alloc ?_ _))); rintro e wq ⟨rfl, gq⟩) | (go_at_call 9; (with_reducible refine (absolveB (W2 := w) ?_ (pick_11 _)).mono ?_); (first | assumption | (repeat (first | assumption | refine Below.drew ?_ | refine bel_alloc ?_ _))); rintro e wq ⟨rfl, gq⟩) | (go_at_call 9; (with_reducible refine (absolveB (W2 := w) ?_ (pick_any _ (by omega) _)).mono ?_); (first | assumption | (repeat (first | assumption | refine Below.drew ?_ | refine bel_alloc ?_ _))); rintro e wq ⟨rfl, gq⟩) | (go_at_call 96; (with_reducible refine (absolveB (W2 := w) ?_ (HE.out _)).mono ?_); (first | assumption | (repeat (first | assumption | refine Below.drew ?_ | refine bel_alloc ?_ _))); rintro e wq ⟨rfl, gq⟩))
  all_goals go_ret
  all_goals exact ⟨rfl, by assumption⟩

set_option maxRecDepth 100000 in
set_option maxHeartbeats 4000000 in
theorem ct_map (i j : Int) (a : Nat) (ha : a < 10) (hN : ∀ w, Calls Tryz.prog 8 #[.int .i64 i, .int .i64 10] w fun e w' => e = .returned (.int .i64 (a : Int)) ∧ w = w')
    (hM : ∀ w, Calls Tryz.prog 8 #[.int .i64 j, .int .i64 14] w fun e w' => e = .returned (.int .i64 (12 : Int)) ∧ w = w') (w : World) :
    Calls Tryz.prog 3 #[.int .i64 i, .int .i64 j] w fun e w' => e = .returned (.bool true) ∧ Below w.heap.size w w' := by
  have HN := Lib.hid hN
  have HM := Lib.hid hM
  clear hN hM
  have HE := Lib.hid (show ∀ (x : Value) (w : World), Calls Tryz.prog 96 #[rtV a, .iface 41 x] w fun e w' => e = .returned (.bool false) ∧ Below w.heap.size w w' from fun x w => e_rt_map _ x w)
  have n1 : ∀ (v : Value) (w : World), (nilAhead 805 76 v "Equal").run Tryz.prog w = .ok (some false) w := fun v w => by kernel_rfl
  have m1 : ∀ (k : Nat) (w : World), (Go.method 805 76 (rtV k) "Equal").run Tryz.prog w = .ok (96, rtV k) w := fun k w => by kernel_rfl
  have hmm := @run_makeMap Tryz.prog
  have g0 := Below.refl w.heap.size w
  go_enter Tryz.func3, Tryz.ntmps3
  go_wp2_with (first | (go_at_call 8; (with_reducible refine (HN.out _).mono ?_); rintro e w1 ⟨rfl, rfl⟩) | (go_at_call 8; (with_reducible refine (HM.out _).mono ?_); rintro e w1 ⟨rfl, rfl⟩) | (go_at_call 10; (with_reducible refine (z_array _ _ _).mono ?_); rintro e w1 ⟨rfl, rfl⟩) | (go_at_call 9; (with_reducible refine (absolveB (W2 := w) ?_ (pick_rt _ ha _)).mono ?_); (first | assumption | (repeat (first | assumption | refine Below.drew ?_ | refine bel_alloc ?_ _))); rintro e wq ⟨rfl, gq⟩) | (go_at_call 9; (with_reducible refine (absolveB (W2 := w) ?_ (pick_0 _)).mono ?_); (first | assumption | (repeat (first | assumption | refine Below.drew ?_ | refine bel_alloc ?_ _))); rintro e wq ⟨rfl, gq⟩) | (go_at_call 9; (with_reducible refine (absolveB (W2 := w) ?_ (pick_any _ (by omega) _)).mono ?_); (first | assumption | (repeat (first | assumption | refine Below.drew ?_ | refine bel_alloc ?_ _))); rintro e wq ⟨rfl, gq⟩) | (go_at_call 96; (with_reducible refine (absolveB (W2 := w) ?_ (HE.out _ _)).mono ?_); (first | assumption | (repeat (first | assumption | refine Below.drew ?_ | refine bel_alloc ?_ _))); rintro e wq ⟨rfl, gq⟩))
  all_goals go_ret
  all_goals exact ⟨rfl, by assumption⟩

set_option maxRecDepth 100000 in
set_option maxHeartbeats 4000000 in
theorem ct_arr (i j : Int) (a : Nat) (ha : a < 10) (hN : ∀ w, Calls Tryz.prog 8 #[.int .i64 i, .int .i64 10] w fun e w' => e = .returned (.int .i64 (a : Int)) ∧ w = w')
    (hM : ∀ w, Calls Tryz.prog 8 #[.int .i64 j, .int .i64 14] w fun e w' => e = .returned (.int .i64 (13 : Int)) ∧ w = w') (w : World) :
    Calls Tryz.prog 3 #[.int .i64 i, .int .i64 j] w fun e w' => e = .returned (.bool true) ∧ Below w.heap.size w w' := by
  have HN := Lib.hid hN
  have HM := Lib.hid hM
  clear hN hM
  have HE := Lib.hid (show ∀ (x : Value) (w : World), Calls Tryz.prog 96 #[rtV a, .iface 67 x] w fun e w' => e = .returned (.bool false) ∧ Below w.heap.size w w' from fun x w => e_rt_arr _ x w)
  have n1 : ∀ (v : Value) (w : World), (nilAhead 805 76 v "Equal").run Tryz.prog w = .ok (some false) w := fun v w => by kernel_rfl
  have m1 : ∀ (k : Nat) (w : World), (Go.method 805 76 (rtV k) "Equal").run Tryz.prog w = .ok (96, rtV k) w := fun k w => by kernel_rfl
  have g0 := Below.refl w.heap.size w
  go_enter Tryz.func3, Tryz.ntmps3
  go_wp2_with (first | (go_at_call 8; (with_reducible refine (HN.out _).mono ?_); rintro e w1 ⟨rfl, rfl⟩) | (go_at_call 8; (with_reducible refine (HM.out _).mono ?_); rintro e w1 ⟨rfl, rfl⟩) | (go_at_call 10; (with_reducible refine (z_array _ _ _).mono ?_); rintro e w1 ⟨rfl, rfl⟩) | (go_at_call 9; (with_reducible refine (absolveB (W2 := w) ?_ (pick_rt _ ha _)).mono ?_); (first | assumption | (repeat (first | assumption | refine Below.drew ?_ | refine bel_alloc ?_ _))); rintro e wq ⟨rfl, gq⟩) | (go_at_call 9; (with_reducible refine (absolveB (W2 := w) ?_ (pick_0 _)).mono ?_); (first | assumption | (repeat (first | assumption | refine Below.drew ?_ | refine bel_alloc ?_ _))); rintro e wq ⟨rfl, gq⟩) | (go_at_call 9; (with_reducible refine (absolveB (W2 := w) ?_ (pick_any _ (by omega) _)).mono ?_); (first | assumption | (repeat (first | assumption | refine Below.drew ?_ | refine bel_alloc ?_ _))); rintro e wq ⟨rfl, gq⟩) | (go_at_call 96; (with_reducible refine (absolveB (W2 := w) ?_ (HE.out _ _)).mono ?_); (first | assumption | (repeat (first | assumption | refine Below.drew ?_ | refine bel_alloc ?_ _))); rintro e wq ⟨rfl, gq⟩))
  all_goals go_ret
  all_goals exact ⟨rfl, by assumption⟩

theorem ct_all (i j : Int) (h1 : -9223372036854775808 ≤ i ∧ i ≤ 9223372036854775807) (h2 : -9223372036854775808 ≤ j ∧ j ≤ 9223372036854775807) (w : World) :
    Calls Tryz.prog 3 #[.int .i64 i, .int .i64 j] w fun e w' => e = .returned (.bool true) ∧ Below w.heap.size w w' := by
  have hN := fun w : World => norm_nat i 10 h1.1 h1.2 (by omega) w
  have hM := fun w : World => norm_nat j 14 h2.1 h2.2 (by omega) w
  have ha : (i % ((10 : Nat) : Int)).toNat < 10 := by omega
  have hb : (j % ((14 : Nat) : Int)).toNat < 14 := by omega
  generalize (i % ((10 : Nat) : Int)).toNat = a at hN ha
  generalize (j % ((14 : Nat) : Int)).toNat = b at hM hb
  rcases (show b < 10 ∨ b = 10 ∨ b = 11 ∨ b = 12 ∨ b = 13 by omega) with h | rfl | rfl | rfl | rfl
  · by_cases hab : a = b
    · subst hab
      exact ct_same i j a ha hN hM w
    · exact ct_other i j a b h hab ha hN hM w
  · exact ct_any i j a ha hN hM w
  · exact ct_nil i j a ha hN hM w
  · exact ct_map i j a ha hN hM w
  · exact ct_arr i j a ha hN hM w
end Go.Proofs.YtnpmgandmmlilaaGreatFmt

/-
  What is proved here: the walk of FnTypeOfEqualByTypeNotValue: it returns true for all its arguments, in a world that has only grown.
-/
import Derived.Test.YtkbpcobdfalecaaGreatRe
namespace Go.Proofs.YtkbpcobdfalecaaGreat
open Go.ChangeShapes Go.WideShapes Go.ChangeAt Go.RowKit Go.Extern
set_option linter.unusedVariables false

theorem eq_int_int (w : World) : Calls Tryz.prog 53 #[.agg #[(.iface 48 (.pointer (some ⟨0, 3, none⟩)))], .iface 47 (.agg #[(.iface 48 (.pointer (some ⟨0, 3, none⟩)))])] w fun e w' => e = .returned (.bool true) ∧ Grown w w' :=
  rt_rt _ _ _ _ true str_int str_int (by decide +kernel) w
theorem eq_int_int64 (w : World) : Calls Tryz.prog 53 #[.agg #[(.iface 48 (.pointer (some ⟨0, 3, none⟩)))], .iface 47 (.agg #[(.iface 48 (.pointer (some ⟨0, 2, none⟩)))])] w fun e w' => e = .returned (.bool false) ∧ Grown w w' :=
  rt_rt _ _ _ _ false str_int str_int64 (by decide +kernel) w
theorem eq_int_string (w : World) : Calls Tryz.prog 53 #[.agg #[(.iface 48 (.pointer (some ⟨0, 3, none⟩)))], .iface 47 (.agg #[(.iface 48 (.pointer (some ⟨0, 9, none⟩)))])] w fun e w' => e = .returned (.bool false) ∧ Grown w w' :=
  rt_rt _ _ _ _ false str_int str_string (by decide +kernel) w
theorem eq_int64_int (w : World) : Calls Tryz.prog 53 #[.agg #[(.iface 48 (.pointer (some ⟨0, 2, none⟩)))], .iface 47 (.agg #[(.iface 48 (.pointer (some ⟨0, 3, none⟩)))])] w fun e w' => e = .returned (.bool false) ∧ Grown w w' :=
  rt_rt _ _ _ _ false str_int64 str_int (by decide +kernel) w
theorem eq_string_int (w : World) : Calls Tryz.prog 53 #[.agg #[(.iface 48 (.pointer (some ⟨0, 9, none⟩)))], .iface 47 (.agg #[(.iface 48 (.pointer (some ⟨0, 3, none⟩)))])] w fun e w' => e = .returned (.bool false) ∧ Grown w w' :=
  rt_rt _ _ _ _ false str_string str_int (by decide +kernel) w
theorem eq_string_string (w : World) : Calls Tryz.prog 53 #[.agg #[(.iface 48 (.pointer (some ⟨0, 9, none⟩)))], .iface 47 (.agg #[(.iface 48 (.pointer (some ⟨0, 9, none⟩)))])] w fun e w' => e = .returned (.bool true) ∧ Grown w w' :=
  rt_rt _ _ _ _ true str_string str_string (by decide +kernel) w

theorem zb_small (x y u : Int) (s t : ByteArray) (w : World) (hs : s.size + t.size ≤ 1048576) :
    Calls Tryz.prog 4 #[.int .i64 x, .int .i64 y, .int .i64 u, .string s, .string t] w fun e w' => e = .returned (.bool true) ∧ w = w' := by
  have h1 : s.size ≤ 1048576 := by omega
  have h2 : t.size ≤ 1048576 := by omega
  go_enter Tryz.func4, Tryz.ntmps4
  go_wp2
  go_ret
  exact ⟨rfl, rfl⟩

theorem zb_big (x y u : Int) (s t : ByteArray) (w : World) (h1 : s.size ≤ 9223372036854775807) (h2 : t.size ≤ 9223372036854775807) (hs : ¬ s.size + t.size ≤ 1048576) :
    Calls Tryz.prog 4 #[.int .i64 x, .int .i64 y, .int .i64 u, .string s, .string t] w fun e w' => e = .returned (.bool false) ∧ w = w' := by
  by_cases c1 : 1048576 < s.size
  · go_enter Tryz.func4, Tryz.ntmps4
    go_wp2
    go_ret
    exact ⟨rfl, rfl⟩
  by_cases c2 : 1048576 < t.size
  · go_enter Tryz.func4, Tryz.ntmps4
    go_wp2
    go_ret
    exact ⟨rfl, rfl⟩
  · go_enter Tryz.func4, Tryz.ntmps4
    go_wp2
    go_ret
    exact ⟨rfl, rfl⟩

theorem law_big (x y u : Int) (s t : ByteArray) (w : World) (h1 : s.size ≤ 9223372036854775807) (h2 : t.size ≤ 9223372036854775807) (hs : ¬ s.size + t.size ≤ 1048576) :
    Calls Tryz.prog 3 #[.int .i64 x, .int .i64 y, .int .i64 u, .string s, .string t] w fun e w' => e = .returned (.bool true) ∧ Grown w w' := by
  have H := Lib.hid (zb_big x y u s t w h1 h2 hs)
  clear hs
  go_enter Tryz.func3, Tryz.ntmps3
  go_wp2_with (go_at_call 4; refine H.out.mono ?_; rintro e w1 ⟨rfl, rfl⟩)
  go_ret
  exact ⟨rfl, by go_grown⟩

set_option maxRecDepth 100000 in
set_option maxHeartbeats 8000000 in
theorem law_small (x y u : Int) (s t : ByteArray) (w : World) (hs : s.size + t.size ≤ 1048576) :
    Calls Tryz.prog 3 #[.int .i64 x, .int .i64 y, .int .i64 u, .string s, .string t] w fun e w' => e = .returned (.bool true) ∧ Grown w w' := by
  have H := Lib.hid (zb_small x y u s t w hs)
  have h1 : s.size ≤ 1048576 := by omega
  have h2 : t.size ≤ 1048576 := by omega
  have n1 : ∀ (v : Value) (w : World), (nilAhead 769 47 v "Equal").run Tryz.prog w = .ok (some false) w := fun v w => by kernel_rfl
  have n2 : ∀ (v : Value) (w : World), (nilAhead 769 42 v "Equal").run Tryz.prog w = .ok (some false) w := fun v w => by kernel_rfl
  have m1 : ∀ (v : Value) (w : World), (Go.method 769 47 (.agg #[v]) "Equal").run Tryz.prog w = .ok (53, .agg #[v]) w := fun v w => by kernel_rfl
  have m2 : ∀ (w : World), (Go.method 769 42 (.agg #[]) "Equal").run Tryz.prog w = .ok (50, .agg #[]) w := fun w => by kernel_rfl
  go_enter Tryz.func3, Tryz.ntmps3
  go_wp2_with fail
  refine H.out.mono ?_; rintro e w1 ⟨rfl, rfl⟩
  have g0 := Grown.refl w
  go_upto_region 7 with fail
  go_cut [42] (fun s wx => s = .bool false ∧ Grown w wx)
  case first =>
    go_region_with (first | (go_at_call 5; (with_reducible refine (typeOf_any _ _ _).mono ?_); rintro e w1 ⟨rfl, rfl⟩) | (go_at_call 5; (with_reducible refine (typeOf_nil _).mono ?_); rintro e w1 ⟨rfl, rfl⟩) | (go_at_call 53; (with_reducible refine (absolve (W2 := w) ?_ (eq_int_int _)).mono ?_); (first | assumption | (refine Grown.drew ?_; assumption)); rintro e wq ⟨rfl, gq⟩))
    all_goals (go_wp2_with fail; go_meet; exact ⟨rfl, by assumption⟩)
  case rest =>
  clear g0
  obtain ⟨rfl, g1⟩ := hcut
  go_upto_region 9 with fail
  go_cut [53] (fun s wx => s = .bool false ∧ Grown w wx)
  case first =>
    go_region_with (first | (go_at_call 5; (with_reducible refine (typeOf_any _ _ _).mono ?_); rintro e w1 ⟨rfl, rfl⟩) | (go_at_call 5; (with_reducible refine (typeOf_nil _).mono ?_); rintro e w1 ⟨rfl, rfl⟩) | (go_at_call 53; (with_reducible refine (absolve (W2 := w) ?_ (eq_string_string _)).mono ?_); (first | assumption | (refine Grown.drew ?_; assumption)); rintro e wq ⟨rfl, gq⟩))
    all_goals (go_wp2_with fail; go_meet; exact ⟨rfl, by assumption⟩)
  case rest =>
  clear g1
  obtain ⟨rfl, g2⟩ := hcut
  go_upto_region 11 with fail
  go_cut [63] (fun s wx => s = .bool false ∧ Grown w wx)
  case first =>
    go_region_with (first | (go_at_call 5; (with_reducible refine (typeOf_any _ _ _).mono ?_); rintro e w1 ⟨rfl, rfl⟩) | (go_at_call 5; (with_reducible refine (typeOf_nil _).mono ?_); rintro e w1 ⟨rfl, rfl⟩) | (go_at_call 53; (with_reducible refine (absolve (W2 := w) ?_ (eq_int_int64 _)).mono ?_); (first | assumption | (refine Grown.drew ?_; assumption)); rintro e wq ⟨rfl, gq⟩))
    all_goals (go_wp2_with fail; go_meet; exact ⟨rfl, by assumption⟩)
  case rest =>
  clear g2
  obtain ⟨rfl, g3⟩ := hcut
  go_upto_region 13 with fail
  go_cut [73] (fun s wx => s = .bool false ∧ Grown w wx)
  case first =>
    go_region_with (first | (go_at_call 5; (with_reducible refine (typeOf_any _ _ _).mono ?_); rintro e w1 ⟨rfl, rfl⟩) | (go_at_call 5; (with_reducible refine (typeOf_nil _).mono ?_); rintro e w1 ⟨rfl, rfl⟩) | (go_at_call 53; (with_reducible refine (absolve (W2 := w) ?_ (eq_int64_int _)).mono ?_); (first | assumption | (refine Grown.drew ?_; assumption)); rintro e wq ⟨rfl, gq⟩))
    all_goals (go_wp2_with fail; go_meet; exact ⟨rfl, by assumption⟩)
  case rest =>
  clear g3
  obtain ⟨rfl, g4⟩ := hcut
  go_upto_region 15 with fail
  go_cut [83] (fun s wx => s = .bool false ∧ Grown w wx)
  case first =>
    go_region_with (first | (go_at_call 5; (with_reducible refine (typeOf_any _ _ _).mono ?_); rintro e w1 ⟨rfl, rfl⟩) | (go_at_call 5; (with_reducible refine (typeOf_nil _).mono ?_); rintro e w1 ⟨rfl, rfl⟩) | (go_at_call 53; (with_reducible refine (absolve (W2 := w) ?_ (eq_int_string _)).mono ?_); (first | assumption | (refine Grown.drew ?_; assumption)); rintro e wq ⟨rfl, gq⟩))
    all_goals (go_wp2_with fail; go_meet; exact ⟨rfl, by assumption⟩)
  case rest =>
  clear g4
  obtain ⟨rfl, g5⟩ := hcut
  go_upto_region 17 with fail
  go_cut [93] (fun s wx => s = .bool false ∧ Grown w wx)
  case first =>
    go_region_with (first | (go_at_call 5; (with_reducible refine (typeOf_any _ _ _).mono ?_); rintro e w1 ⟨rfl, rfl⟩) | (go_at_call 5; (with_reducible refine (typeOf_nil _).mono ?_); rintro e w1 ⟨rfl, rfl⟩) | (go_at_call 53; (with_reducible refine (absolve (W2 := w) ?_ (eq_string_int _)).mono ?_); (first | assumption | (refine Grown.drew ?_; assumption)); rintro e wq ⟨rfl, gq⟩))
    all_goals (go_wp2_with fail; go_meet; exact ⟨rfl, by assumption⟩)
  case rest =>
  clear g5
  obtain ⟨rfl, g6⟩ := hcut
  go_upto_region 19 with fail
  go_cut [101] (fun s wx => s = .bool false ∧ Grown w wx)
  case first =>
    go_region_with (first | (go_at_call 5; (with_reducible refine (typeOf_any _ _ _).mono ?_); rintro e w1 ⟨rfl, rfl⟩) | (go_at_call 5; (with_reducible refine (typeOf_nil _).mono ?_); rintro e w1 ⟨rfl, rfl⟩) | (go_at_call 53; (with_reducible refine (absolve (W2 := w) ?_ (rt_nil 3 _)).mono ?_); (first | assumption | (refine Grown.drew ?_; assumption)); rintro e wq ⟨rfl, gq⟩))
    all_goals (go_wp2_with fail; go_meet; exact ⟨rfl, by assumption⟩)
  case rest =>
  clear g6
  obtain ⟨rfl, g7⟩ := hcut
  go_upto_region 21 with fail
  go_cut [109] (fun s wx => s = .bool false ∧ Grown w wx)
  case first =>
    go_region_with (first | (go_at_call 5; (with_reducible refine (typeOf_any _ _ _).mono ?_); rintro e w1 ⟨rfl, rfl⟩) | (go_at_call 5; (with_reducible refine (typeOf_nil _).mono ?_); rintro e w1 ⟨rfl, rfl⟩) | (go_at_call 50; (with_reducible refine (absolve (W2 := w) ?_ (nil_rt 3 _)).mono ?_); (first | assumption | (refine Grown.drew ?_; assumption)); rintro e wq ⟨rfl, gq⟩))
    all_goals (go_wp2_with fail; go_meet; exact ⟨rfl, by assumption⟩)
  case rest =>
  clear g7
  obtain ⟨rfl, g8⟩ := hcut
  go_upto_region 23 with fail
  go_cut [116] (fun s wx => s = .bool false ∧ Grown w wx)
  case first =>
    go_region_with (first | (go_at_call 5; (with_reducible refine (typeOf_any _ _ _).mono ?_); rintro e w1 ⟨rfl, rfl⟩) | (go_at_call 5; (with_reducible refine (typeOf_nil _).mono ?_); rintro e w1 ⟨rfl, rfl⟩) | (go_at_call 50; (with_reducible refine (absolve (W2 := w) ?_ (nil_nil _)).mono ?_); (first | assumption | (refine Grown.drew ?_; assumption)); rintro e wq ⟨rfl, gq⟩))
    all_goals (go_wp2_with fail; go_meet; exact ⟨rfl, by assumption⟩)
  case rest =>
  clear g8
  obtain ⟨rfl, g9⟩ := hcut
  go_wp2_with fail
  go_ret
  exact ⟨rfl, g9⟩
end Go.Proofs.YtkbpcobdfalecaaGreat

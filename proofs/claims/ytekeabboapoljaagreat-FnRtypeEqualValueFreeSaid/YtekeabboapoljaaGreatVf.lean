/-
  What is proved here: the walk of FnRtypeEqualValueFree: it returns true for all its arguments, in a world that has only grown.
-/
import Derived.Test.YtekeabboapoljaaGreatRe
import Derived.Laws.FloatArith
namespace Go.Proofs.YtekeabboapoljaaGreat
open Go.ChangeShapes Go.WideShapes Go.ChangeAt Go.RowKit Go.Extern
set_option linter.unusedVariables false

theorem str_float64 (w : World) : (callFunc 94 #[.pointer (some ⟨0, 27, none⟩)]).run Tryz.prog w = .ok (.value (.string ⟨#[102, 108, 111, 97, 116, 54, 52]⟩)) w := by kernel_rfl
theorem str_float32 (w : World) : (callFunc 94 #[.pointer (some ⟨0, 26, none⟩)]).run Tryz.prog w = .ok (.value (.string ⟨#[102, 108, 111, 97, 116, 51, 50]⟩)) w := by kernel_rfl

/-- float32(g): one answer and nothing drawn, or one that is drawn. -/
theorem conv32 (g : Nat) : (∃ r : Nat, ∀ w : World, (convert 27 26 (.float .f64 g)).run Tryz.prog w = .ok (.float .f32 r) w) ∨
    (∃ rr : World → Nat, ∀ w : World, (convert 27 26 (.float .f64 g)).run Tryz.prog w = .ok (.float .f32 (rr w)) w.drew) := by
  have hs : Tryz.prog.underlying 27 = some (.float .f64) := Tryz.underlying27
  have hd : Tryz.prog.underlying 26 = some (.float .f32) := Tryz.underlying26
  have his : (Tryz.prog.underlying 27).isSome = true := by rw [hs]; rfl
  cases he : FloatKind.f64.decode g with
  | nan a b =>
    by_cases hq : (Question.nanConv .f32 g).forced = true
    · exact .inl ⟨0, fun w => by simp [convert, run_underlying hs, run_underlying hd, Conv.floatToFloat, he, hq]⟩
    · exact .inr ⟨fun w => (Question.nanConv .f32 g).cut (w.tape w.drawn (Question.nanConv .f32 g)), fun w => by simp [convert, run_underlying hs, run_underlying hd, Conv.floatToFloat, he, hq]⟩
  | infinity sg => exact .inl ⟨FloatKind.f32.encode (.infinity sg), fun w => run_convert_float_float _ _ _ _ _ _ _ his hd (by simp [floatToFloatBits, he])⟩
  | number sg m e =>
    by_cases ho : (FloatKind.f32.decode (FloatKind.f32.encode (.number sg m e))).isInfinity = true
    · by_cases hq : (Question.floatToFloat g).forced = true
      · exact .inl ⟨0, fun w => by simp [convert, run_underlying hs, run_underlying hd, Conv.floatToFloat, he, ho, hq]⟩
      · exact .inr ⟨fun w => (Question.floatToFloat g).cut (w.tape w.drawn (Question.floatToFloat g)), fun w => by simp [convert, run_underlying hs, run_underlying hd, Conv.floatToFloat, he, ho, hq]⟩
    · exact .inl ⟨FloatKind.f32.encode (.number sg m e), fun w => run_convert_float_float _ _ _ _ _ _ _ his hd (by simp [floatToFloatBits, he, ho])⟩

theorem eq_int_int (w : World) : Calls Tryz.prog 53 #[.agg #[(.iface 48 (.pointer (some ⟨0, 3, none⟩)))], .iface 47 (.agg #[(.iface 48 (.pointer (some ⟨0, 3, none⟩)))])] w fun e w' => e = .returned (.bool true) ∧ Grown w w' :=
  rt_rt _ _ _ _ true str_int str_int (by decide +kernel) w
theorem eq_string_string (w : World) : Calls Tryz.prog 53 #[.agg #[(.iface 48 (.pointer (some ⟨0, 9, none⟩)))], .iface 47 (.agg #[(.iface 48 (.pointer (some ⟨0, 9, none⟩)))])] w fun e w' => e = .returned (.bool true) ∧ Grown w w' :=
  rt_rt _ _ _ _ true str_string str_string (by decide +kernel) w
theorem eq_float64_float64 (w : World) : Calls Tryz.prog 53 #[.agg #[(.iface 48 (.pointer (some ⟨0, 27, none⟩)))], .iface 47 (.agg #[(.iface 48 (.pointer (some ⟨0, 27, none⟩)))])] w fun e w' => e = .returned (.bool true) ∧ Grown w w' :=
  rt_rt _ _ _ _ true str_float64 str_float64 (by decide +kernel) w
theorem eq_int_int64 (w : World) : Calls Tryz.prog 53 #[.agg #[(.iface 48 (.pointer (some ⟨0, 3, none⟩)))], .iface 47 (.agg #[(.iface 48 (.pointer (some ⟨0, 2, none⟩)))])] w fun e w' => e = .returned (.bool false) ∧ Grown w w' :=
  rt_rt _ _ _ _ false str_int str_int64 (by decide +kernel) w
theorem eq_float64_float32 (w : World) : Calls Tryz.prog 53 #[.agg #[(.iface 48 (.pointer (some ⟨0, 27, none⟩)))], .iface 47 (.agg #[(.iface 48 (.pointer (some ⟨0, 26, none⟩)))])] w fun e w' => e = .returned (.bool false) ∧ Grown w w' :=
  rt_rt _ _ _ _ false str_float64 str_float32 (by decide +kernel) w
theorem eq_int_float64 (w : World) : Calls Tryz.prog 53 #[.agg #[(.iface 48 (.pointer (some ⟨0, 3, none⟩)))], .iface 47 (.agg #[(.iface 48 (.pointer (some ⟨0, 27, none⟩)))])] w fun e w' => e = .returned (.bool false) ∧ Grown w w' :=
  rt_rt _ _ _ _ false str_int str_float64 (by decide +kernel) w
theorem eq_string_int (w : World) : Calls Tryz.prog 53 #[.agg #[(.iface 48 (.pointer (some ⟨0, 9, none⟩)))], .iface 47 (.agg #[(.iface 48 (.pointer (some ⟨0, 3, none⟩)))])] w fun e w' => e = .returned (.bool false) ∧ Grown w w' :=
  rt_rt _ _ _ _ false str_string str_int (by decide +kernel) w

theorem zb_small (x y : Int) (s t : ByteArray) (f g : Nat) (w : World) (hs : s.size + t.size ≤ 1048576) :
    Calls Tryz.prog 4 #[.int .i64 x, .int .i64 y, .string s, .string t, .float .f64 f, .float .f64 g] w fun e w' => e = .returned (.bool true) ∧ w = w' := by
  have h1 : s.size ≤ 1048576 := by omega
  have h2 : t.size ≤ 1048576 := by omega
  go_enter Tryz.func4, Tryz.ntmps4
  go_wp2
  go_ret
  exact ⟨rfl, rfl⟩

theorem zb_big (x y : Int) (s t : ByteArray) (f g : Nat) (w : World) (h1 : s.size ≤ 9223372036854775807) (h2 : t.size ≤ 9223372036854775807) (hs : ¬ s.size + t.size ≤ 1048576) :
    Calls Tryz.prog 4 #[.int .i64 x, .int .i64 y, .string s, .string t, .float .f64 f, .float .f64 g] w fun e w' => e = .returned (.bool false) ∧ w = w' := by
  by_cases c1 : 1048576 < s.size
  · go_enter Tryz.func4, Tryz.ntmps4
    go_wp2
    go_ret
    exact ⟨rfl, rfl⟩
  by_cases c2 : 1048576 < t.size
  · go_enter Tryz.func4, Tryz.ntmps4
    go_wp2
    go_ret
    exact ⟨rfl, rfl⟩
  · go_enter Tryz.func4, Tryz.ntmps4
    go_wp2
    go_ret
    exact ⟨rfl, rfl⟩

theorem law_big (x y : Int) (s t : ByteArray) (f g : Nat) (w : World) (h1 : s.size ≤ 9223372036854775807) (h2 : t.size ≤ 9223372036854775807) (hs : ¬ s.size + t.size ≤ 1048576) :
    Calls Tryz.prog 3 #[.int .i64 x, .int .i64 y, .string s, .string t, .float .f64 f, .float .f64 g] w fun e w' => e = .returned (.bool true) ∧ Grown w w' := by
  have H := Lib.hid (zb_big x y s t f g w h1 h2 hs)
  clear hs
  go_enter Tryz.func3, Tryz.ntmps3
  go_wp2_with (go_at_call 4; refine H.out.mono ?_; rintro e w1 ⟨rfl, rfl⟩)
  go_ret
  exact ⟨rfl, by go_grown⟩

set_option maxRecDepth 100000 in
set_option maxHeartbeats 8000000 in
theorem law_still (x y : Int) (s t : ByteArray) (f g : Nat) (r : Nat) (hcv : ∀ w : World, (convert 27 26 (.float .f64 g)).run Tryz.prog w = .ok (.float .f32 r) w) (w : World) (hs : s.size + t.size ≤ 1048576) :
    Calls Tryz.prog 3 #[.int .i64 x, .int .i64 y, .string s, .string t, .float .f64 f, .float .f64 g] w fun e w' => e = .returned (.bool true) ∧ Grown w w' := by
  have H := Lib.hid (zb_small x y s t f g w hs)
  have h1 : s.size ≤ 1048576 := by omega
  have h2 : t.size ≤ 1048576 := by omega
  have n1 : ∀ (v : Value) (w : World), (nilAhead 770 47 v "Equal").run Tryz.prog w = .ok (some false) w := fun v w => by kernel_rfl
  have m1 : ∀ (v : Value) (w : World), (Go.method 770 47 (.agg #[v]) "Equal").run Tryz.prog w = .ok (53, .agg #[v]) w := fun v w => by kernel_rfl
  go_enter Tryz.func3, Tryz.ntmps3
  go_wp2_with fail
  refine H.out.mono ?_; rintro e w1 ⟨rfl, rfl⟩
  have g0 := Grown.refl w
  go_upto_region 7 with fail
  go_cut [45] (fun s wx => s = .bool false ∧ Grown w wx)
  case first =>
    go_region_with (first | (go_at_call 5; (with_reducible refine (typeOf_any _ _ _).mono ?_); rintro e w1 ⟨rfl, rfl⟩) | (go_at_call 53; (with_reducible refine (absolve (W2 := w) ?_ (eq_int_int _)).mono ?_); (first | assumption | (repeat (first | assumption | refine Grown.drew ?_))); rintro e wq ⟨rfl, gq⟩))
    all_goals (go_wp2_with fail; go_meet; exact ⟨rfl, by assumption⟩)
  case rest =>
  clear g0
  obtain ⟨rfl, g1⟩ := hcut
  go_upto_region 9 with fail
  go_cut [56] (fun s wx => s = .bool false ∧ Grown w wx)
  case first =>
    go_region_with (first | (go_at_call 5; (with_reducible refine (typeOf_any _ _ _).mono ?_); rintro e w1 ⟨rfl, rfl⟩) | (go_at_call 53; (with_reducible refine (absolve (W2 := w) ?_ (eq_string_string _)).mono ?_); (first | assumption | (repeat (first | assumption | refine Grown.drew ?_))); rintro e wq ⟨rfl, gq⟩))
    all_goals (go_wp2_with fail; go_meet; exact ⟨rfl, by assumption⟩)
  case rest =>
  clear g1
  obtain ⟨rfl, g2⟩ := hcut
  go_upto_region 11 with fail
  go_cut [67] (fun s wx => s = .bool false ∧ Grown w wx)
  case first =>
    go_region_with (first | (go_at_call 5; (with_reducible refine (typeOf_any _ _ _).mono ?_); rintro e w1 ⟨rfl, rfl⟩) | (go_at_call 53; (with_reducible refine (absolve (W2 := w) ?_ (eq_float64_float64 _)).mono ?_); (first | assumption | (repeat (first | assumption | refine Grown.drew ?_))); rintro e wq ⟨rfl, gq⟩))
    all_goals (go_wp2_with fail; go_meet; exact ⟨rfl, by assumption⟩)
  case rest =>
  clear g2
  obtain ⟨rfl, g3⟩ := hcut
  go_upto_region 13 with fail
  go_cut [77] (fun s wx => s = .bool false ∧ Grown w wx)
  case first =>
    go_region_with (first | (go_at_call 5; (with_reducible refine (typeOf_any _ _ _).mono ?_); rintro e w1 ⟨rfl, rfl⟩) | (go_at_call 53; (with_reducible refine (absolve (W2 := w) ?_ (eq_int_int64 _)).mono ?_); (first | assumption | (repeat (first | assumption | refine Grown.drew ?_))); rintro e wq ⟨rfl, gq⟩))
    all_goals (go_wp2_with fail; go_meet; exact ⟨rfl, by assumption⟩)
  case rest =>
  clear g3
  obtain ⟨rfl, g4⟩ := hcut
  go_upto_region 15 with fail
  go_cut [88] (fun s wx => s = .bool false ∧ Grown w wx)
  case first =>
    go_region_with (first | (go_at_call 5; (with_reducible refine (typeOf_any _ _ _).mono ?_); rintro e w1 ⟨rfl, rfl⟩) | (go_at_call 53; (with_reducible refine (absolve (W2 := w) ?_ (eq_float64_float32 _)).mono ?_); (first | assumption | (repeat (first | assumption | refine Grown.drew ?_))); rintro e wq ⟨rfl, gq⟩))
    all_goals (go_wp2_with fail; go_meet; exact ⟨rfl, by assumption⟩)
  case rest =>
  clear g4
  obtain ⟨rfl, g5⟩ := hcut
  go_upto_region 17 with fail
  go_cut [110] (fun s wx => s = .bool false ∧ Grown w wx)
  case first =>
    go_region_with (first | (go_at_call 5; (with_reducible refine (typeOf_any _ _ _).mono ?_); rintro e w1 ⟨rfl, rfl⟩) | (go_at_call 53; (with_reducible refine (absolve (W2 := w) ?_ (eq_int_float64 _)).mono ?_); (first | assumption | (repeat (first | assumption | refine Grown.drew ?_))); rintro e wq ⟨rfl, gq⟩) | (go_at_call 53; (with_reducible refine (absolve (W2 := w) ?_ (eq_string_int _)).mono ?_); (first | assumption | (repeat (first | assumption | refine Grown.drew ?_))); rintro e wq ⟨rfl, gq⟩))
    all_goals (go_wp2_with fail; go_meet; exact ⟨rfl, by assumption⟩)
  case rest =>
  clear g5
  obtain ⟨rfl, g6⟩ := hcut
  go_wp2_with fail
  go_ret
  exact ⟨rfl, g6⟩

set_option maxRecDepth 100000 in
set_option maxHeartbeats 8000000 in
theorem law_drawn (x y : Int) (s t : ByteArray) (f g : Nat) (rr : World → Nat) (hcv : ∀ w : World, (convert 27 26 (.float .f64 g)).run Tryz.prog w = .ok (.float .f32 (rr w)) w.drew) (w : World) (hs : s.size + t.size ≤ 1048576) :
    Calls Tryz.prog 3 #[.int .i64 x, .int .i64 y, .string s, .string t, .float .f64 f, .float .f64 g] w fun e w' => e = .returned (.bool true) ∧ Grown w w' := by
  have H := Lib.hid (zb_small x y s t f g w hs)
  have h1 : s.size ≤ 1048576 := by omega
  have h2 : t.size ≤ 1048576 := by omega
  have n1 : ∀ (v : Value) (w : World), (nilAhead 770 47 v "Equal").run Tryz.prog w = .ok (some false) w := fun v w => by kernel_rfl
  have m1 : ∀ (v : Value) (w : World), (Go.method 770 47 (.agg #[v]) "Equal").run Tryz.prog w = .ok (53, .agg #[v]) w := fun v w => by kernel_rfl
  go_enter Tryz.func3, Tryz.ntmps3
  go_wp2_with fail
  refine H.out.mono ?_; rintro e w1 ⟨rfl, rfl⟩
  have g0 := Grown.refl w
  go_upto_region 7 with fail
  go_cut [45] (fun s wx => s = .bool false ∧ Grown w wx)
  case first =>
    go_region_with (first | (go_at_call 5; (with_reducible refine (typeOf_any _ _ _).mono ?_); rintro e w1 ⟨rfl, rfl⟩) | (go_at_call 53; (with_reducible refine (absolve (W2 := w) ?_ (eq_int_int _)).mono ?_); (first | assumption | (repeat (first | assumption | refine Grown.drew ?_))); rintro e wq ⟨rfl, gq⟩))
    all_goals (go_wp2_with fail; go_meet; exact ⟨rfl, by assumption⟩)
  case rest =>
  clear g0
  obtain ⟨rfl, g1⟩ := hcut
  go_upto_region 9 with fail
  go_cut [56] (fun s wx => s = .bool false ∧ Grown w wx)
  case first =>
    go_region_with (first | (go_at_call 5; (with_reducible refine (typeOf_any _ _ _).mono ?_); rintro e w1 ⟨rfl, rfl⟩) | (go_at_call 53; (with_reducible refine (absolve (W2 := w) ?_ (eq_string_string _)).mono ?_); (first | assumption | (repeat (first | assumption | refine Grown.drew ?_))); rintro e wq ⟨rfl, gq⟩))
    all_goals (go_wp2_with fail; go_meet; exact ⟨rfl, by assumption⟩)
  case rest =>
  clear g1
  obtain ⟨rfl, g2⟩ := hcut
  go_upto_region 11 with fail
  go_cut [67] (fun s wx => s = .bool false ∧ Grown w wx)
  case first =>
    go_region_with (first | (go_at_call 5; (with_reducible refine (typeOf_any _ _ _).mono ?_); rintro e w1 ⟨rfl, rfl⟩) | (go_at_call 53; (with_reducible refine (absolve (W2 := w) ?_ (eq_float64_float64 _)).mono ?_); (first | assumption | (repeat (first | assumption | refine Grown.drew ?_))); rintro e wq ⟨rfl, gq⟩))
    all_goals (go_wp2_with fail; go_meet; exact ⟨rfl, by assumption⟩)
  case rest =>
  clear g2
  obtain ⟨rfl, g3⟩ := hcut
  go_upto_region 13 with fail
  go_cut [77] (fun s wx => s = .bool false ∧ Grown w wx)
  case first =>
    go_region_with (first | (go_at_call 5; (with_reducible refine (typeOf_any _ _ _).mono ?_); rintro e w1 ⟨rfl, rfl⟩) | (go_at_call 53; (with_reducible refine (absolve (W2 := w) ?_ (eq_int_int64 _)).mono ?_); (first | assumption | (repeat (first | assumption | refine Grown.drew ?_))); rintro e wq ⟨rfl, gq⟩))
    all_goals (go_wp2_with fail; go_meet; exact ⟨rfl, by assumption⟩)
  case rest =>
  clear g3
  obtain ⟨rfl, g4⟩ := hcut
  go_upto_region 15 with fail
  go_cut [88] (fun s wx => s = .bool false ∧ Grown w wx)
  case first =>
    go_region_with (first | (go_at_call 5; (with_reducible refine (typeOf_any _ _ _).mono ?_); rintro e w1 ⟨rfl, rfl⟩) | (go_at_call 53; (with_reducible refine (absolve (W2 := w) ?_ (eq_float64_float32 _)).mono ?_); (first | assumption | (repeat (first | assumption | refine Grown.drew ?_))); rintro e wq ⟨rfl, gq⟩))
    all_goals (go_wp2_with fail; go_meet; exact ⟨rfl, by assumption⟩)
  case rest =>
  clear g4
  obtain ⟨rfl, g5⟩ := hcut
  go_upto_region 17 with fail
  go_cut [110] (fun s wx => s = .bool false ∧ Grown w wx)
  case first =>
    go_region_with (first | (go_at_call 5; (with_reducible refine (typeOf_any _ _ _).mono ?_); rintro e w1 ⟨rfl, rfl⟩) | (go_at_call 53; (with_reducible refine (absolve (W2 := w) ?_ (eq_int_float64 _)).mono ?_); (first | assumption | (repeat (first | assumption | refine Grown.drew ?_))); rintro e wq ⟨rfl, gq⟩) | (go_at_call 53; (with_reducible refine (absolve (W2 := w) ?_ (eq_string_int _)).mono ?_); (first | assumption | (repeat (first | assumption | refine Grown.drew ?_))); rintro e wq ⟨rfl, gq⟩))
    all_goals (go_wp2_with fail; go_meet; exact ⟨rfl, by assumption⟩)
  case rest =>
  clear g5
  obtain ⟨rfl, g6⟩ := hcut
  go_wp2_with fail
  go_ret
  exact ⟨rfl, g6⟩

theorem law_small (x y : Int) (s t : ByteArray) (f g : Nat) (w : World) (hs : s.size + t.size ≤ 1048576) :
    Calls Tryz.prog 3 #[.int .i64 x, .int .i64 y, .string s, .string t, .float .f64 f, .float .f64 g] w fun e w' => e = .returned (.bool true) ∧ Grown w w' := by
  rcases conv32 g with ⟨r, hr⟩ | ⟨rr, hr⟩
  · exact law_still x y s t f g r hr w hs
  · exact law_drawn x y s t f g rr hr w hs
end Go.Proofs.YtekeabboapoljaaGreat

/-
  What is proved here: the walk of FnAnyIsTopFromTheOtherSide: it returns true for every int and every string, in a world in which nothing that was there has turned.
-/
import Derived.Test.YtnpmgandmmlilaaGreatFmtSz
namespace Go.Proofs.YtnpmgandmmlilaaGreatFmt
open Go.ChangeShapes Go.WideShapes Go.ChangeAt Go.RowKit Go.Extern
set_option linter.unusedVariables false

theorem zz18 (w : World) : Calls Tryz.prog 40 #[] w fun e w' => e = .returned (.iface 69 (.agg #[])) ∧ w = w' := by
  go_enter Tryz.func40, Tryz.ntmps40
  go_wp2
  go_ret
  exact ⟨rfl, rfl⟩

theorem a_any_rt (x : Value) (w : World) : Calls Tryz.prog 89 #[.agg #[.iface 69 (.agg #[])], .iface 67 (.agg #[.iface 76 x])] w fun e w' => e = .returned (.bool true) ∧ Below w.heap.size w w' :=
  s_any _ _ _ true w fun w1 _ => e_any _ w1
theorem a_rt_any (x : Value) (w : World) : Calls Tryz.prog 89 #[.agg #[.iface 76 (.agg #[x])], .iface 67 (.agg #[.iface 69 (.agg #[])])] w fun e w' => e = .returned (.bool true) ∧ Below w.heap.size w w' :=
  s_rt _ _ _ true w fun w1 _ => e_rt_any _ w1
theorem a_int_str (w : World) : Calls Tryz.prog 89 #[.agg #[.iface 76 (.agg #[.iface 77 (.pointer (some ⟨1, 3, none⟩))])], .iface 67 (.agg #[.iface 76 (.agg #[.iface 77 (.pointer (some ⟨1, 9, none⟩))])])] w fun e w' => e = .returned (.bool false) ∧ Below w.heap.size w w' :=
  s_rt _ _ _ false w fun w1 _ => rt_rt _ _ _ _ false str_int str_string (by decide +kernel) w1

theorem at_zb (x : Int) (k : ByteArray) (w : World) (hs : k.size ≤ 1048576) :
    Calls Tryz.prog 39 #[.int .i64 x, .string k] w fun e w' => e = .returned (.bool true) ∧ w = w' := by
  go_enter Tryz.func39, Tryz.ntmps39
  go_wp2
  go_ret
  exact ⟨rfl, rfl⟩

theorem at_big (x : Int) (k : ByteArray) (w : World) (h1 : k.size ≤ 9223372036854775807) (hs : ¬ k.size ≤ 1048576) :
    Calls Tryz.prog 7 #[.int .i64 x, .string k] w fun e w' => e = .returned (.bool true) ∧ Below w.heap.size w w' := by
  go_enter Tryz.func7, Tryz.ntmps7
  go_wp2
  go_ret
  exact ⟨rfl, by go_grown⟩

theorem bel_alloc2 {a w : World} (h : Below a.heap.size a w) (o : Obj) : Below a.heap.size a (w.alloc o) := h.alloc h.size o

set_option maxRecDepth 100000 in
set_option maxHeartbeats 8000000 in
theorem at_small (x : Int) (k : ByteArray) (w : World) (hs : k.size ≤ 1048576) :
    Calls Tryz.prog 7 #[.int .i64 x, .string k] w fun e w' => e = .returned (.bool true) ∧ Below w.heap.size w w' := by
  have hmm := @run_makeMap Tryz.prog
  have n1 : ∀ (v : Value) (w : World), (nilAhead 805 76 v "Equal").run Tryz.prog w = .ok (some false) w := fun v w => by kernel_rfl
  have n2 : ∀ (v : Value) (w : World), (nilAhead 805 71 v "Equal").run Tryz.prog w = .ok (some false) w := fun v w => by kernel_rfl
  have n3 : ∀ (v : Value) (w : World), (nilAhead 805 67 v "Equal").run Tryz.prog w = .ok (some false) w := fun v w => by kernel_rfl
  have m1 : ∀ (v : Value) (w : World), (Go.method 805 76 (.agg #[v]) "Equal").run Tryz.prog w = .ok (96, .agg #[v]) w := fun v w => by kernel_rfl
  have m2 : ∀ (w : World), (Go.method 805 71 (.agg #[]) "Equal").run Tryz.prog w = .ok (42, .agg #[]) w := fun w => by kernel_rfl
  have m3 : ∀ (v : Value) (w : World), (Go.method 805 67 (.agg #[v]) "Equal").run Tryz.prog w = .ok (89, .agg #[v]) w := fun v w => by kernel_rfl
  have g0 := Below.refl w.heap.size w
  go_enter Tryz.func7, Tryz.ntmps7
  go_wp2_with fail
  refine (at_zb x k w hs).mono ?_; rintro e w1 ⟨rfl, rfl⟩
  go_upto_region 5 with fail
  go_cut [21] (fun s wx => s = .bool false ∧ Below w.heap.size w wx)
  case first =>
    go_region_with (first | (go_at_call 18; (with_reducible refine (typeOf_any _ _ _).mono ?_); rintro e w1 ⟨rfl, rfl⟩) | (go_at_call 40; (with_reducible refine (zz18 _).mono ?_); rintro e w1 ⟨rfl, rfl⟩) | (go_at_call 96; (with_reducible refine (absolve (W2 := w) ?_ (e_rt_any _ _)).mono ?_); (first | assumption | (refine Below.drew ?_; assumption)); rintro e wq ⟨rfl, gq⟩))
    all_goals (go_wp2_with fail; go_meet; exact ⟨rfl, by assumption⟩)
  case rest =>
  clear g0
  obtain ⟨rfl, g1⟩ := hcut
  go_upto_region 7 with fail
  go_cut [30] (fun s wx => s = .bool false ∧ Below w.heap.size w wx)
  case first =>
    go_region_with (first | (go_at_call 18; (with_reducible refine (typeOf_any _ _ _).mono ?_); rintro e w1 ⟨rfl, rfl⟩) | (go_at_call 40; (with_reducible refine (zz18 _).mono ?_); rintro e w1 ⟨rfl, rfl⟩) | (go_at_call 96; (with_reducible refine (absolve (W2 := w) ?_ (e_rt_any _ _)).mono ?_); (first | assumption | (refine Below.drew ?_; assumption)); rintro e wq ⟨rfl, gq⟩))
    all_goals (go_wp2_with fail; go_meet; exact ⟨rfl, by assumption⟩)
  case rest =>
  clear g1
  obtain ⟨rfl, g2⟩ := hcut
  go_upto_region 9 with fail
  go_cut [37] (fun s wx => s = .bool false ∧ Below w.heap.size w wx)
  case first =>
    go_region_with (first | (go_at_call 18; (with_reducible refine (typeOf_nil _).mono ?_); rintro e w1 ⟨rfl, rfl⟩) | (go_at_call 40; (with_reducible refine (zz18 _).mono ?_); rintro e w1 ⟨rfl, rfl⟩) | (go_at_call 42; (with_reducible refine (absolve (W2 := w) ?_ (e_nil_any _)).mono ?_); (first | assumption | (refine Below.drew ?_; assumption)); rintro e wq ⟨rfl, gq⟩))
    all_goals (go_wp2_with fail; go_meet; exact ⟨rfl, by assumption⟩)
  case rest =>
  clear g2
  obtain ⟨rfl, g3⟩ := hcut
  go_upto_region 11 with fail
  go_cut [47] (fun s wx => s = .bool false ∧ Below w.heap.size w wx)
  case first =>
    go_region_with (first | (go_at_call 18; (with_reducible refine (typeOf_any _ _ _).mono ?_); rintro e w1 ⟨rfl, rfl⟩) | (go_at_call 10; (with_reducible refine (z_array _ _ _).mono ?_); rintro e w1 ⟨rfl, rfl⟩) | (go_at_call 40; (with_reducible refine (zz18 _).mono ?_); rintro e w1 ⟨rfl, rfl⟩) | (go_at_call 89; (with_reducible refine (absolve (W2 := w) ?_ (e_arr_any _ _)).mono ?_); (first | assumption | (refine Below.drew ?_; assumption)); rintro e wq ⟨rfl, gq⟩))
    all_goals (go_wp2_with fail; go_meet; exact ⟨rfl, by assumption⟩)
  case rest =>
  clear g3
  obtain ⟨rfl, g4⟩ := hcut
  go_upto_region 16 with (first | (go_at_call 40; (with_reducible refine (zz18 _).mono ?_); rintro e w1 ⟨rfl, rfl⟩) | (go_at_call 16; (with_reducible refine (absolve (W2 := w) ?_ (e_map_any _ _)).mono ?_); (first | assumption | (repeat (first | assumption | refine Below.drew ?_ | refine bel_alloc2 ?_ _))); rintro e wq ⟨rfl, gq⟩))
  go_cut [63] (fun s wx => s = .bool false ∧ Below w.heap.size w wx)
  case first =>
    go_region_with (first | (go_at_call 10; (with_reducible refine (z_array _ _ _).mono ?_); rintro e w1 ⟨rfl, rfl⟩) | (go_at_call 40; (with_reducible refine (zz18 _).mono ?_); rintro e w1 ⟨rfl, rfl⟩) | (go_at_call 18; (with_reducible refine (typeOf_any _ _ _).mono ?_); rintro e w1 ⟨rfl, rfl⟩) | (go_at_call 89; (with_reducible refine (absolve (W2 := w) ?_ (a_any_rt _ _)).mono ?_); (first | assumption | (refine Below.drew ?_; assumption)); rintro e wq ⟨rfl, gq⟩))
    all_goals (go_wp2_with fail; go_meet; exact ⟨rfl, by assumption⟩)
  case rest =>
  clear g4 gq
  obtain ⟨rfl, g5⟩ := hcut
  go_upto_region 18 with fail
  go_cut [74] (fun s wx => s = .bool false ∧ Below w.heap.size w wx)
  case first =>
    go_region_with (first | (go_at_call 10; (with_reducible refine (z_array _ _ _).mono ?_); rintro e w1 ⟨rfl, rfl⟩) | (go_at_call 40; (with_reducible refine (zz18 _).mono ?_); rintro e w1 ⟨rfl, rfl⟩) | (go_at_call 18; (with_reducible refine (typeOf_any _ _ _).mono ?_); rintro e w1 ⟨rfl, rfl⟩) | (go_at_call 89; (with_reducible refine (absolve (W2 := w) ?_ (a_rt_any _ _)).mono ?_); (first | assumption | (refine Below.drew ?_; assumption)); rintro e wq ⟨rfl, gq⟩))
    all_goals (go_wp2_with fail; go_meet; exact ⟨rfl, by assumption⟩)
  case rest =>
  clear g5
  obtain ⟨rfl, g6⟩ := hcut
  go_upto_region 20 with fail
  go_cut [86] (fun s wx => s = .bool false ∧ Below w.heap.size w wx)
  case first =>
    go_region_with (first | (go_at_call 10; (with_reducible refine (z_array _ _ _).mono ?_); rintro e w1 ⟨rfl, rfl⟩) | (go_at_call 18; (with_reducible refine (typeOf_any _ _ _).mono ?_); rintro e w1 ⟨rfl, rfl⟩) | (go_at_call 89; (with_reducible refine (absolve (W2 := w) ?_ (a_int_str _)).mono ?_); (first | assumption | (refine Below.drew ?_; assumption)); rintro e wq ⟨rfl, gq⟩))
    all_goals (go_wp2_with fail; go_meet; exact ⟨rfl, by assumption⟩)
  case rest =>
  clear g6
  obtain ⟨rfl, g7⟩ := hcut
  go_wp2_with fail
  go_ret
  exact ⟨rfl, g7⟩
end Go.Proofs.YtnpmgandmmlilaaGreatFmt

/-
  What is proved here: the walk of FnNilEqualCaseTable: it returns true for every int and every string, in a world that has only grown.
-/
import Derived.Test.YtpfgjmaiaompdaaGreatRt
import Derived.WideMake
namespace Go.Proofs.YtpfgjmaiaompdaaGreat
open Go.ChangeShapes Go.WideShapes Go.ChangeAt Go.RowKit Go.Extern
set_option linter.unusedVariables false

theorem Grown.allocObj {W w' : World} (h : Grown W w') (es : Array MapEntry) (c : Nat) : Grown W (w'.alloc (.map es c)) := Grown.allocMap h es c

theorem ne_false (t : TypeId) (x : Value) (w : World) (ha : (t == 43) = false) (hn : (t == 41) = false) :
    Calls Tryz.prog 14 #[.agg #[], .iface t x] w fun e w' => e = .returned (.bool false) ∧ Grown w w' := by
  have h1 : ∀ (y : Value) (w : World), (binOp .eql 45 (.iface t x) (.iface 43 y)).run Tryz.prog w = .ok (.bool false) w := fun y w => teq _ _ ha _ _ _ _ _ _ Tryz.underlying45
  have h2 : ∀ (y : Value) (w : World), (binOp .eql 45 (.iface t x) (.iface 41 y)).run Tryz.prog w = .ok (.bool false) w := fun y w => teq _ _ hn _ _ _ _ _ _ Tryz.underlying45
  clear ha hn
  go_enter Tryz.func14, Tryz.ntmps14
  go_wp2
  go_ret
  exact ⟨rfl, by go_grown⟩

theorem ne_any (w : World) :
    Calls Tryz.prog 14 #[.agg #[], .iface 43 (.agg #[])] w fun e w' => e = .returned (.bool true) ∧ Grown w w' := by
  have h1 : ∀ (w : World), (binOp .eql 45 (.iface 43 (.agg #[])) (.iface 43 (.agg #[]))).run Tryz.prog w = .ok (.bool true) w := fun w => by kernel_rfl
  go_enter Tryz.func14, Tryz.ntmps14
  go_wp2
  go_ret
  exact ⟨rfl, by go_grown⟩

theorem ne_nil (w : World) :
    Calls Tryz.prog 14 #[.agg #[], .iface 41 (.agg #[])] w fun e w' => e = .returned (.bool true) ∧ Grown w w' := by
  have h1 : ∀ (x y : Value) (w : World), (binOp .eql 45 (.iface 41 x) (.iface 43 y)).run Tryz.prog w = .ok (.bool false) w := fun x y w => teq _ _ rfl _ _ _ _ _ _ Tryz.underlying45
  have h2 : ∀ (w : World), (binOp .eql 45 (.iface 41 (.agg #[])) (.iface 41 (.agg #[]))).run Tryz.prog w = .ok (.bool true) w := fun w => by kernel_rfl
  go_enter Tryz.func14, Tryz.ntmps14
  go_wp2
  go_ret
  exact ⟨rfl, by go_grown⟩

theorem ne_none (w : World) :
    Calls Tryz.prog 14 #[.agg #[], .nilIface] w fun e w' => e = .returned (.bool false) ∧ Grown w w' := by
  have h1 : ∀ (y : Value) (w : World), (binOp .eql 45 .nilIface (.iface 43 y)).run Tryz.prog w = .ok (.bool false) w := fun y w => by kernel_rfl
  have h2 : ∀ (y : Value) (w : World), (binOp .eql 45 .nilIface (.iface 41 y)).run Tryz.prog w = .ok (.bool false) w := fun y w => by kernel_rfl
  go_enter Tryz.func14, Tryz.ntmps14
  go_wp2
  go_ret
  exact ⟨rfl, by go_grown⟩

theorem z_any (w : World) : Calls Tryz.prog 5 #[] w fun e w' => e = .returned (.bool true) ∧ Grown w w' := by
  go_enter Tryz.func5, Tryz.ntmps5
  go_wp2_with (first | (go_at_call 14; (with_reducible refine (ne_any _).mono ?_); rintro e w1 ⟨rfl, hg⟩))
  go_ret
  exact ⟨rfl, grown_trans (by go_grown) hg⟩

theorem z_nil (w : World) : Calls Tryz.prog 6 #[] w fun e w' => e = .returned (.bool true) ∧ Grown w w' := by
  go_enter Tryz.func6, Tryz.ntmps6
  go_wp2_with (first | (go_at_call 14; (with_reducible refine (ne_nil _).mono ?_); rintro e w1 ⟨rfl, hg⟩))
  go_ret
  exact ⟨rfl, grown_trans (by go_grown) hg⟩

theorem z_tnil (w : World) : Calls Tryz.prog 7 #[] w fun e w' => e = .returned (.bool true) ∧ Grown w w' := by
  go_enter Tryz.func7, Tryz.ntmps7
  go_wp2_with (first | (go_at_call 15; (with_reducible refine (typeOf_nil _).mono ?_); rintro e w1 ⟨rfl, rfl⟩) | (go_at_call 14; (with_reducible refine (ne_nil _).mono ?_); rintro e w1 ⟨rfl, hg⟩))
  go_ret
  exact ⟨rfl, grown_trans (by go_grown) hg⟩

theorem z_none (w : World) : Calls Tryz.prog 8 #[] w fun e w' => e = .returned (.bool false) ∧ Grown w w' := by
  go_enter Tryz.func8, Tryz.ntmps8
  go_wp2_with (first | (go_at_call 14; (with_reducible refine (ne_none _).mono ?_); rintro e w1 ⟨rfl, hg⟩))
  go_ret
  exact ⟨rfl, grown_trans (by go_grown) hg⟩

theorem z_int (x : Int) (w : World) : Calls Tryz.prog 9 #[.int .i64 x] w fun e w' => e = .returned (.bool false) ∧ Grown w w' := by
  go_enter Tryz.func9, Tryz.ntmps9
  go_wp2_with (first | (go_at_call 15; (with_reducible refine (typeOf_any _ _ _).mono ?_); rintro e w1 ⟨rfl, rfl⟩) | (go_at_call 14; (with_reducible refine (ne_false 54 _ _ rfl rfl).mono ?_); rintro e w1 ⟨rfl, hg⟩))
  go_ret
  exact ⟨rfl, grown_trans (by go_grown) hg⟩

theorem z_str (k : ByteArray) (w : World) : Calls Tryz.prog 10 #[.string k] w fun e w' => e = .returned (.bool false) ∧ Grown w w' := by
  go_enter Tryz.func10, Tryz.ntmps10
  go_wp2_with (first | (go_at_call 15; (with_reducible refine (typeOf_any _ _ _).mono ?_); rintro e w1 ⟨rfl, rfl⟩) | (go_at_call 14; (with_reducible refine (ne_false 54 _ _ rfl rfl).mono ?_); rintro e w1 ⟨rfl, hg⟩))
  go_ret
  exact ⟨rfl, grown_trans (by go_grown) hg⟩

theorem z_array (ty : TypeId) (x : Value) (w : World) : Calls Tryz.prog 16 #[.iface ty x] w fun e w' => e = .returned (.iface 56 (.agg #[.iface ty x])) ∧ w = w' := by
  go_enter Tryz.func16, Tryz.ntmps16
  go_wp2
  go_ret
  exact ⟨rfl, rfl⟩

theorem z_arr (w : World) : Calls Tryz.prog 11 #[] w fun e w' => e = .returned (.bool false) ∧ Grown w w' := by
  go_enter Tryz.func11, Tryz.ntmps11
  go_wp2_with (first | (go_at_call 16; (with_reducible refine (z_array _ _ _).mono ?_); rintro e w1 ⟨rfl, rfl⟩) | (go_at_call 14; (with_reducible refine (ne_false 56 _ _ rfl rfl).mono ?_); rintro e w1 ⟨rfl, hg⟩))
  go_ret
  exact ⟨rfl, grown_trans (by go_grown) hg⟩

theorem z_map0 (w : World) : Calls Tryz.prog 12 #[] w fun e w' => e = .returned (.bool false) ∧ Grown w w' := by
  have hmm := @run_makeMap Tryz.prog
  go_enter Tryz.func12, Tryz.ntmps12
  go_wp2_with (first | (go_at_call 14; (with_reducible refine (ne_false 49 _ _ rfl rfl).mono ?_); rintro e w1 ⟨rfl, hg⟩))
  go_ret
  exact ⟨rfl, grown_trans (Grown.allocMap (Grown.refl _) _ _) hg⟩

theorem set_last (w : World) (o o' : Obj) : ({ w.alloc o with heap := (w.alloc o).heap.setIfInBounds w.heap.size o' } : World) = w.alloc o' := by
  have e : (w.heap.push o).setIfInBounds w.heap.size o' = w.heap.push o' := by
    apply Array.ext_getElem?
    intro i
    simp only [Array.getElem?_setIfInBounds, Array.getElem?_push, Array.size_push]
    by_cases h : w.heap.size = i
    · subst h; simp
    · simp [h, Ne.symm h]
  show ({ w with heap := (w.heap.push o).setIfInBounds w.heap.size o' } : World) = { w with heap := w.heap.push o' }
  rw [e]

theorem put_new (k : ByteArray) (v : Value) (w : World) :
    (Instr.mapUpdate 49 (.map (some w.heap.size)) (.string k) v).run Tryz.prog (w.alloc (.map #[] 0)) = .ok () (w.alloc (.map #[{ key := .string k, val := v, born := 0 }] 1)) := by
  have h := run_mapUpdate_first (P := Tryz.prog) (w := w.alloc (.map #[] 0)) 49 9 45 w.heap.size 0 k v Tryz.underlying49 Tryz.underlying9 (MapKept.heap_alloc w _).1
  rw [set_last] at h
  exact h

theorem z_map1 (k : ByteArray) (w : World) : Calls Tryz.prog 13 #[.string k] w fun e w' => e = .returned (.bool false) ∧ Grown w w' := by
  have hmm := @run_makeMap Tryz.prog
  have hpn := put_new k
  go_enter Tryz.func13, Tryz.ntmps13
  go_wp2_with (first | (go_at_call 14; (with_reducible refine (ne_false 49 _ _ rfl rfl).mono ?_); rintro e w1 ⟨rfl, hg⟩))
  go_ret
  exact ⟨rfl, grown_trans (Grown.allocMap (Grown.refl _) _ _) hg⟩

theorem zb_small (x : Int) (k : ByteArray) (w : World) (hs : k.size ≤ 1048576) :
    Calls Tryz.prog 4 #[.int .i64 x, .string k] w fun e w' => e = .returned (.bool true) ∧ w = w' := by
  go_enter Tryz.func4, Tryz.ntmps4
  go_wp2
  go_ret
  exact ⟨rfl, rfl⟩

theorem law_big (x : Int) (k : ByteArray) (w : World) (h1 : k.size ≤ 9223372036854775807) (hs : ¬ k.size ≤ 65536) :
    Calls Tryz.prog 3 #[.int .i64 x, .string k] w fun e w' => e = .returned (.bool true) ∧ Grown w w' := by
  by_cases c : k.size ≤ 1048576
  · go_enter Tryz.func3, Tryz.ntmps3
    go_wp2
    go_ret
    exact ⟨rfl, by go_grown⟩
  · go_enter Tryz.func3, Tryz.ntmps3
    go_wp2
    go_ret
    exact ⟨rfl, by go_grown⟩

set_option maxHeartbeats 2000000 in
theorem law_small (x : Int) (k : ByteArray) (w : World) (hs : k.size ≤ 65536) :
    Calls Tryz.prog 3 #[.int .i64 x, .string k] w fun e w' => e = .returned (.bool true) ∧ Grown w w' := by
  have g0 := Grown.refl w
  go_enter Tryz.func3, Tryz.ntmps3
  go_wp2_with fail
  refine (zb_small x k w (by omega)).mono ?_; rintro e w1 ⟨rfl, rfl⟩
  go_wp2_with fail
  refine (absolve g0 (z_any _)).mono ?_; rintro e w2 ⟨rfl, g1⟩
  clear g0
  go_wp2_with fail
  refine (absolve g1 (z_nil _)).mono ?_; rintro e w3 ⟨rfl, g2⟩
  clear g1
  go_wp2_with fail
  refine (absolve g2 (z_tnil _)).mono ?_; rintro e w4 ⟨rfl, g3⟩
  clear g2
  go_wp2_with fail
  refine (absolve g3 (z_none _)).mono ?_; rintro e w5 ⟨rfl, g4⟩
  clear g3
  go_wp2_with fail
  refine (absolve g4 (z_int _ _)).mono ?_; rintro e w6 ⟨rfl, g5⟩
  clear g4
  go_wp2_with fail
  refine (absolve g5 (z_str _ _)).mono ?_; rintro e w7 ⟨rfl, g6⟩
  clear g5
  go_wp2_with fail
  refine (absolve g6 (z_arr _)).mono ?_; rintro e w8 ⟨rfl, g7⟩
  clear g6
  go_wp2_with fail
  refine (absolve g7 (z_map0 _)).mono ?_; rintro e w9 ⟨rfl, g8⟩
  clear g7
  go_wp2_with fail
  refine (absolve g8 (z_map1 _ _)).mono ?_; rintro e w10 ⟨rfl, g9⟩
  clear g8
  go_wp2_with fail
  go_ret
  exact ⟨rfl, g9⟩
end Go.Proofs.YtpfgjmaiaompdaaGreat

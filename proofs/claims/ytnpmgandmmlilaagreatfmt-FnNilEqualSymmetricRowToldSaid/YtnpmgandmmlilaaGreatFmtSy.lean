/-
  What is proved here: the walk of FnNilEqualSymmetricRow: it returns true for every int and every string, in a world in which nothing that was there has turned.
-/
import Derived.Test.YtnpmgandmmlilaaGreatFmtSz
namespace Go.Proofs.YtnpmgandmmlilaaGreatFmt
open Go.ChangeShapes Go.WideShapes Go.ChangeAt Go.RowKit Go.Extern
set_option linter.unusedVariables false

theorem sy_zb (x : Int) (k : ByteArray) (w : World) (hs : k.size ≤ 1048576) :
    Calls Tryz.prog 20 #[.int .i64 x, .string k] w fun e w' => e = .returned (.bool true) ∧ w = w' := by
  go_enter Tryz.func20, Tryz.ntmps20
  go_wp2
  go_ret
  exact ⟨rfl, rfl⟩

theorem sy_big (x : Int) (k : ByteArray) (w : World) (h1 : k.size ≤ 9223372036854775807) (hs : ¬ k.size ≤ 65536) :
    Calls Tryz.prog 5 #[.int .i64 x, .string k] w fun e w' => e = .returned (.bool true) ∧ Below w.heap.size w w' := by
  by_cases c : k.size ≤ 1048576
  · go_enter Tryz.func5, Tryz.ntmps5
    go_wp2
    go_ret
    exact ⟨rfl, by go_grown⟩
  · go_enter Tryz.func5, Tryz.ntmps5
    go_wp2
    go_ret
    exact ⟨rfl, by go_grown⟩

set_option maxRecDepth 100000 in
set_option maxHeartbeats 4000000 in
theorem sy_small (x : Int) (k : ByteArray) (w : World) (hs : k.size ≤ 65536) :
    Calls Tryz.prog 5 #[.int .i64 x, .string k] w fun e w' => e = .returned (.bool true) ∧ Below w.heap.size w w' := by
  have g0 := Below.refl w.heap.size w
  go_enter Tryz.func5, Tryz.ntmps5
  go_wp2_with fail
  refine (sy_zb x k w (by omega)).mono ?_; rintro e w1 ⟨rfl, rfl⟩
  go_wp2_with fail
  refine (absolve g0 (z_nAny _)).mono ?_; rintro e wq0 ⟨rfl, g1⟩
  clear g0
  go_wp2_with fail
  refine (absolve g1 (z_anyN _)).mono ?_; rintro e wq1 ⟨rfl, g2⟩
  clear g1
  go_wp2_with fail
  refine (absolve g2 (z_nNil _)).mono ?_; rintro e wq2 ⟨rfl, g3⟩
  clear g2
  go_wp2_with fail
  refine (absolve g3 (z_selfN _)).mono ?_; rintro e wq3 ⟨rfl, g4⟩
  clear g3
  go_wp2_with fail
  refine (absolve g4 (z_nInt _ _)).mono ?_; rintro e wq4 ⟨rfl, g5⟩
  clear g4
  go_wp2_with fail
  refine (absolve g5 (z_intN _ _)).mono ?_; rintro e wq5 ⟨rfl, g6⟩
  clear g5
  go_wp2_with fail
  refine (absolve g6 (z_nStr _ _)).mono ?_; rintro e wq6 ⟨rfl, g7⟩
  clear g6
  go_wp2_with fail
  refine (absolve g7 (z_strN _ _)).mono ?_; rintro e wq7 ⟨rfl, g8⟩
  clear g7
  go_wp2_with fail
  refine (absolve g8 (z_nArr _)).mono ?_; rintro e wq8 ⟨rfl, g9⟩
  clear g8
  go_wp2_with fail
  refine (absolve g9 (z_arrN _)).mono ?_; rintro e wq9 ⟨rfl, g10⟩
  clear g9
  go_wp2_with fail
  refine (absolve g10 (z_nMap0 _)).mono ?_; rintro e wq10 ⟨rfl, g11⟩
  clear g10
  go_wp2_with fail
  refine (absolve g11 (z_map0N _)).mono ?_; rintro e wq11 ⟨rfl, g12⟩
  clear g11
  go_wp2_with fail
  refine (absolve g12 (z_nMap1 _ _)).mono ?_; rintro e wq12 ⟨rfl, g13⟩
  clear g12
  go_wp2_with fail
  refine (absolve g13 (z_map1N _ _)).mono ?_; rintro e wq13 ⟨rfl, g14⟩
  clear g13
  go_wp2_with fail
  go_ret
  exact ⟨rfl, g14⟩
end Go.Proofs.YtnpmgandmmlilaaGreatFmt

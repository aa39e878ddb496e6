/-
  What is proved here: the walk of FnArrayStringAgreesWithEqual: it returns true for every two depths and every two bools; nothing that was there turns. fmt's texts are told by the model's own text law.
-/
import Derived.Test.YtgolkhpojmjjfaaGreatFmtLb
namespace Go.Proofs.YtgolkhpojmjjfaaGreatFmt
open Go.ChangeShapes Go.WideShapes Go.ChangeAt Go.RowKit Go.Extern
open Go.Extern.Stop Go.Stop Go.Kit
set_option linter.unusedVariables false
set_option linter.unusedSimpArgs false

theorem sel_nil (k : ByteArray) (w : World) : Calls Tryz.prog 6 #[.int .u8 1, .string k] w fun e w' => ∃ r, e = .returned (baseV false r) ∧ HasMap w' false r ∧ Below w.heap.size w w' := by
  go_enter Tryz.func6, Tryz.ntmps6
  go_wp2
  go_ret
  exact ⟨0, rfl, (fun h => by cases h), by go_grown⟩

set_option maxRecDepth 100000 in
theorem sel_map (k : ByteArray) (w : World) : Calls Tryz.prog 6 #[.int .u8 2, .string k] w fun e w' => ∃ r, e = .returned (baseV true r) ∧ HasMap w' true r ∧ Below w.heap.size w w' := by
  have hmm := @run_makeMap Tryz.prog
  go_enter Tryz.func6, Tryz.ntmps6
  go_wp2
  go_ret
  exact ⟨_, rfl, fun _ => ⟨_, (MapKept.heap_alloc w _).1⟩, (Below.refl _ _).alloc (Nat.le_refl _) _⟩

/-! ### what String and Equal give at a chain over nil, and at one over Map{} -/
def KN (w : World) (x y : Value) (s : ByteArray) (q : Bool) : Prop :=
  (∃ p, x = .iface 48 p ∧ (∀ w1, Below w.heap.size w w1 → Calls Tryz.prog 55 #[p] w1 fun e w' => e = .returned (.string s) ∧ Below w1.heap.size w1 w') ∧ (∀ w1, Below w.heap.size w w1 → Calls Tryz.prog 53 #[p, y] w1 fun e w' => e = .returned (.bool q) ∧ Below w1.heap.size w1 w')) ∨
  (∃ p, x = .iface 52 (.agg #[p]) ∧ (∀ w1, Below w.heap.size w w1 → Calls Tryz.prog 70 #[.agg #[p]] w1 fun e w' => e = .returned (.string s) ∧ Below w1.heap.size w1 w') ∧ (∀ w1, Below w.heap.size w w1 → Calls Tryz.prog 68 #[.agg #[p], y] w1 fun e w' => e = .returned (.bool q) ∧ Below w1.heap.size w1 w'))

def KM (w : World) (x y : Value) (s : ByteArray) (q : Bool) : Prop :=
  (∃ p, x = .iface 50 p ∧ (∀ w1, Below w.heap.size w w1 → Calls Tryz.prog 58 #[p] w1 fun e w' => e = .returned (.string s) ∧ Below w1.heap.size w1 w') ∧ (∀ w1, Below w.heap.size w w1 → Calls Tryz.prog 56 #[p, y] w1 fun e w' => e = .returned (.bool q) ∧ Below w1.heap.size w1 w')) ∨
  (∃ p, x = .iface 52 (.agg #[p]) ∧ (∀ w1, Below w.heap.size w w1 → Calls Tryz.prog 70 #[.agg #[p]] w1 fun e w' => e = .returned (.string s) ∧ Below w1.heap.size w1 w') ∧ (∀ w1, Below w.heap.size w w1 → Calls Tryz.prog 68 #[.agg #[p], y] w1 fun e w' => e = .returned (.bool q) ∧ Below w1.heap.size w1 w'))

theorem kn (F : Interp) (n m : Nat) (b : Bool) (r1 r2 : Nat) (w : World) (hF : F.told.answers w.tape) (h1 : HasMap w false r1) (h2 : HasMap w b r2) (hn : n ≤ 256) :
    KN w (nest (baseV false r1) n) (nest (baseV b r2) m) (mkS (nestT (baseL false) n)) (eqT n false m b) := by
  rcases n with _ | n
  · exact .inl ⟨_, rfl, fun w1 _ => t_nil w1, fun w1 g => eq_nil m b r2 w1⟩
  · rcases says_nest F hF (base_of w false r1 h1) (n + 1) hn with ⟨p, hp, hc⟩ | ⟨p, hp, hc⟩ | ⟨p, hp, hc⟩ | ⟨p, hp, hc⟩
    · rw [nest_succ] at hp; injection hp with e1 _; exact absurd e1 (by decide)
    · rw [nest_succ] at hp; injection hp with e1 _; exact absurd e1 (by decide)
    · rw [nest_succ] at hp; injection hp with e1 _; exact absurd e1 (by decide)
    · refine .inr ⟨p, hp, hc, fun w1 g => ?_⟩
      have e2 : p = nest (baseV false r1) n := by rw [nest_succ] at hp; injection hp with _ e1; injection e1 with e1; simpa using e1.symm
      rw [e2]
      exact eq_arr n m false b r1 r2 w1 (h1.below g) (h2.below g)

theorem km (F : Interp) (n m : Nat) (b : Bool) (r1 r2 : Nat) (w : World) (hF : F.told.answers w.tape) (h1 : HasMap w true r1) (h2 : HasMap w b r2) (hn : n ≤ 256) :
    KM w (nest (baseV true r1) n) (nest (baseV b r2) m) (mkS (nestT (baseL true) n)) (eqT n true m b) := by
  rcases n with _ | n
  · obtain ⟨c, hm⟩ := h1 rfl
    have hlt : r1 < w.heap.size := by
      rcases Nat.lt_or_ge r1 w.heap.size with h | h
      · exact h
      · simp [Array.getElem?_eq_none h] at hm
    exact .inl ⟨_, rfl, fun w1 g => t_map0 F r1 c w1 (by rw [g.tape]; exact hF) ((g.block r1 hlt).trans hm), fun w1 g => eq_map m b r2 r1 w1 (h1.below g) (h2.below g)⟩
  · rcases says_nest F hF (base_of w true r1 h1) (n + 1) hn with ⟨p, hp, hc⟩ | ⟨p, hp, hc⟩ | ⟨p, hp, hc⟩ | ⟨p, hp, hc⟩
    · rw [nest_succ] at hp; injection hp with e1 _; exact absurd e1 (by decide)
    · rw [nest_succ] at hp; injection hp with e1 _; exact absurd e1 (by decide)
    · rw [nest_succ] at hp; injection hp with e1 _; exact absurd e1 (by decide)
    · refine .inr ⟨p, hp, hc, fun w1 g => ?_⟩
      have e2 : p = nest (baseV true r1) n := by rw [nest_succ] at hp; injection hp with _ e1; injection e1 with e1; simpa using e1.symm
      rw [e2]
      exact eq_arr n m true b r1 r2 w1 (h1.below g) (h2.below g)

theorem mkS_ne {l m : List UInt8} (h : ¬ l = m) : ((mkS l).toList == (mkS m).toList) = false := by
  have e : ∀ l, (mkS l).toList = l := fun l => ByteArray.toList_mk l
  rw [e, e]
  exact beq_eq_false_iff_ne.2 h

theorem lg_out (n m : Int) (a b : Bool) (w : World) (hh : n < 0 ∨ 256 < n ∨ m < 0 ∨ 256 < m) :
    Calls Tryz.prog 3 #[.int .i64 n, .int .i64 m, .bool a, .bool b] w fun e w' => e = .returned (.bool true) ∧ Below w.heap.size w w' := by
  by_cases h1 : n < 0
  · go_enter Tryz.func3, Tryz.ntmps3
    go_wp2
    go_ret
    exact ⟨rfl, by go_grown⟩
  · by_cases h2 : 256 < n
    · go_enter Tryz.func3, Tryz.ntmps3
      go_wp2
      go_ret
      exact ⟨rfl, by go_grown⟩
    · by_cases h3 : m < 0
      · go_enter Tryz.func3, Tryz.ntmps3
        go_wp2
        go_ret
        exact ⟨rfl, by go_grown⟩
      · have h4 : 256 < m := by omega
        go_enter Tryz.func3, Tryz.ntmps3
        go_wp2
        go_ret
        exact ⟨rfl, by go_grown⟩

set_option maxRecDepth 100000 in
set_option maxHeartbeats 4000000 in
theorem lg_nn_eq (F : Interp) (n : Nat) (w : World) (hF : F.told.answers w.tape) (hn : n ≤ 256) :
    Calls Tryz.prog 3 #[.int .i64 (n : Int), .int .i64 (n : Int), .bool false, .bool false] w fun e w' => e = .returned (.bool true) ∧ Below w.heap.size w w' := by
  have hq : eqT n false n false = true := by simp [eqT]
  have HF := Lib.hid hF
  clear hF
  go_enter Tryz.func3, Tryz.ntmps3
  go_wp2_with fail
  refine (sel_nil _ _).mono ?_; rintro e wa ⟨r1, rfl, hm1, ba⟩
  have HA := Lib.hid ba
  have H1 := Lib.hid hm1
  clear ba hm1
  go_wp2_with fail
  refine (wrap_any (baseV false r1) (nest_iface _ r1 0) n hn _).mono ?_; rintro e w1 ⟨rfl, rfl⟩
  go_wp2_with fail
  refine (sel_nil _ _).mono ?_; rintro e wb ⟨r2, rfl, hm2, bb⟩
  have HH := Lib.hid (H1.out.below bb)
  have H2 := Lib.hid hm2
  have HB := Lib.hid (bel_tr3 HA.out bb)
  clear bb hm2
  go_wp2_with fail
  refine (wrap_any (baseV false r2) (nest_iface _ r2 0) n hn _).mono ?_; rintro e w1 ⟨rfl, rfl⟩
  have kx := kn F n n false r1 r2 wb (by rw [HB.out.tape]; exact HF.out) HH.out H2.out hn
  have ky := kn F n n false r2 r1 wb (by rw [HB.out.tape]; exact HF.out) H2.out HH.out hn
  rw [hq] at kx
  generalize mkS (nestT (baseL false) n) = s1 at kx ky
  generalize nest (baseV false r1) n = u at kx ky ⊢
  generalize nest (baseV false r2) n = v at kx ky ⊢
  rcases kx with ⟨p, rfl, hxs, hxe⟩ | ⟨p, rfl, hxs, hxe⟩ <;> rcases ky with ⟨q, rfl, hys, hye⟩ | ⟨q, rfl, hys, hye⟩
  · go_wp2_with fail
    refine (hxe _ (Below.refl _ _)).mono ?_; rintro e w2 ⟨rfl, g2⟩
    have G2 := Lib.hid g2; clear g2
    go_wp2_with fail
    refine (hxs _ G2.out).mono ?_; rintro e w3 ⟨rfl, g3⟩
    have G3 := Lib.hid (bel_tr3 G2.out g3); clear g3
    go_wp2_with fail
    refine (hys _ G3.out).mono ?_; rintro e w4 ⟨rfl, g4⟩
    have G4 := Lib.hid (bel_tr3 G3.out g4); clear g4
    clear hxe hxs hye hys
    go_wp2_with fail
    all_goals
      go_ret
      exact ⟨rfl, bel_tr3 HB.out G4.out⟩
  · go_wp2_with fail
    refine (hxe _ (Below.refl _ _)).mono ?_; rintro e w2 ⟨rfl, g2⟩
    have G2 := Lib.hid g2; clear g2
    go_wp2_with fail
    refine (hxs _ G2.out).mono ?_; rintro e w3 ⟨rfl, g3⟩
    have G3 := Lib.hid (bel_tr3 G2.out g3); clear g3
    go_wp2_with fail
    refine (hys _ G3.out).mono ?_; rintro e w4 ⟨rfl, g4⟩
    have G4 := Lib.hid (bel_tr3 G3.out g4); clear g4
    clear hxe hxs hye hys
    go_wp2_with fail
    all_goals
      go_ret
      exact ⟨rfl, bel_tr3 HB.out G4.out⟩
  · go_wp2_with fail
    refine (hxe _ (Below.refl _ _)).mono ?_; rintro e w2 ⟨rfl, g2⟩
    have G2 := Lib.hid g2; clear g2
    go_wp2_with fail
    refine (hxs _ G2.out).mono ?_; rintro e w3 ⟨rfl, g3⟩
    have G3 := Lib.hid (bel_tr3 G2.out g3); clear g3
    go_wp2_with fail
    refine (hys _ G3.out).mono ?_; rintro e w4 ⟨rfl, g4⟩
    have G4 := Lib.hid (bel_tr3 G3.out g4); clear g4
    clear hxe hxs hye hys
    go_wp2_with fail
    all_goals
      go_ret
      exact ⟨rfl, bel_tr3 HB.out G4.out⟩
  · go_wp2_with fail
    refine (hxe _ (Below.refl _ _)).mono ?_; rintro e w2 ⟨rfl, g2⟩
    have G2 := Lib.hid g2; clear g2
    go_wp2_with fail
    refine (hxs _ G2.out).mono ?_; rintro e w3 ⟨rfl, g3⟩
    have G3 := Lib.hid (bel_tr3 G2.out g3); clear g3
    go_wp2_with fail
    refine (hys _ G3.out).mono ?_; rintro e w4 ⟨rfl, g4⟩
    have G4 := Lib.hid (bel_tr3 G3.out g4); clear g4
    clear hxe hxs hye hys
    go_wp2_with fail
    all_goals
      go_ret
      exact ⟨rfl, bel_tr3 HB.out G4.out⟩

set_option maxRecDepth 100000 in
set_option maxHeartbeats 4000000 in
theorem lg_nn (F : Interp) (n m : Nat) (w : World) (hF : F.told.answers w.tape) (hn : n ≤ 256) (hm : m ≤ 256) (hnm : ¬ n = m) :
    Calls Tryz.prog 3 #[.int .i64 (n : Int), .int .i64 (m : Int), .bool false, .bool false] w fun e w' => e = .returned (.bool true) ∧ Below w.heap.size w w' := by
  have hq : eqT n false m false = false := by simp [eqT, hnm]
  have hne : ((mkS (nestT (baseL false) n)).toList == (mkS (nestT (baseL false) m)).toList) = false := mkS_ne fun h => by
    have := (texts_eq n m false false).1 h
    simp_all
  have HF := Lib.hid hF
  clear hF
  go_enter Tryz.func3, Tryz.ntmps3
  go_wp2_with fail
  refine (sel_nil _ _).mono ?_; rintro e wa ⟨r1, rfl, hm1, ba⟩
  have HA := Lib.hid ba
  have H1 := Lib.hid hm1
  clear ba hm1
  go_wp2_with fail
  refine (wrap_any (baseV false r1) (nest_iface _ r1 0) n hn _).mono ?_; rintro e w1 ⟨rfl, rfl⟩
  go_wp2_with fail
  refine (sel_nil _ _).mono ?_; rintro e wb ⟨r2, rfl, hm2, bb⟩
  have HH := Lib.hid (H1.out.below bb)
  have H2 := Lib.hid hm2
  have HB := Lib.hid (bel_tr3 HA.out bb)
  clear bb hm2
  go_wp2_with fail
  refine (wrap_any (baseV false r2) (nest_iface _ r2 0) m hm _).mono ?_; rintro e w1 ⟨rfl, rfl⟩
  have kx := kn F n m false r1 r2 wb (by rw [HB.out.tape]; exact HF.out) HH.out H2.out hn
  have ky := kn F m n false r2 r1 wb (by rw [HB.out.tape]; exact HF.out) H2.out HH.out hm
  rw [hq] at kx
  generalize mkS (nestT (baseL false) n) = s1 at kx ky hne
  generalize mkS (nestT (baseL false) m) = s2 at kx ky hne
  have hmn : ¬ (n : Int) = (m : Int) := by omega
  generalize nest (baseV false r1) n = u at kx ky ⊢
  generalize nest (baseV false r2) m = v at kx ky ⊢
  rcases kx with ⟨p, rfl, hxs, hxe⟩ | ⟨p, rfl, hxs, hxe⟩ <;> rcases ky with ⟨q, rfl, hys, hye⟩ | ⟨q, rfl, hys, hye⟩
  · go_wp2_with fail
    refine (hxe _ (Below.refl _ _)).mono ?_; rintro e w2 ⟨rfl, g2⟩
    have G2 := Lib.hid g2; clear g2
    go_wp2_with fail
    refine (hxs _ G2.out).mono ?_; rintro e w3 ⟨rfl, g3⟩
    have G3 := Lib.hid (bel_tr3 G2.out g3); clear g3
    go_wp2_with fail
    refine (hys _ G3.out).mono ?_; rintro e w4 ⟨rfl, g4⟩
    have G4 := Lib.hid (bel_tr3 G3.out g4); clear g4
    clear hxe hxs hye hys
    go_wp2_with fail
    all_goals
      go_ret
      exact ⟨rfl, bel_tr3 HB.out G4.out⟩
  · go_wp2_with fail
    refine (hxe _ (Below.refl _ _)).mono ?_; rintro e w2 ⟨rfl, g2⟩
    have G2 := Lib.hid g2; clear g2
    go_wp2_with fail
    refine (hxs _ G2.out).mono ?_; rintro e w3 ⟨rfl, g3⟩
    have G3 := Lib.hid (bel_tr3 G2.out g3); clear g3
    go_wp2_with fail
    refine (hys _ G3.out).mono ?_; rintro e w4 ⟨rfl, g4⟩
    have G4 := Lib.hid (bel_tr3 G3.out g4); clear g4
    clear hxe hxs hye hys
    go_wp2_with fail
    all_goals
      go_ret
      exact ⟨rfl, bel_tr3 HB.out G4.out⟩
  · go_wp2_with fail
    refine (hxe _ (Below.refl _ _)).mono ?_; rintro e w2 ⟨rfl, g2⟩
    have G2 := Lib.hid g2; clear g2
    go_wp2_with fail
    refine (hxs _ G2.out).mono ?_; rintro e w3 ⟨rfl, g3⟩
    have G3 := Lib.hid (bel_tr3 G2.out g3); clear g3
    go_wp2_with fail
    refine (hys _ G3.out).mono ?_; rintro e w4 ⟨rfl, g4⟩
    have G4 := Lib.hid (bel_tr3 G3.out g4); clear g4
    clear hxe hxs hye hys
    go_wp2_with fail
    all_goals
      go_ret
      exact ⟨rfl, bel_tr3 HB.out G4.out⟩
  · go_wp2_with fail
    refine (hxe _ (Below.refl _ _)).mono ?_; rintro e w2 ⟨rfl, g2⟩
    have G2 := Lib.hid g2; clear g2
    go_wp2_with fail
    refine (hxs _ G2.out).mono ?_; rintro e w3 ⟨rfl, g3⟩
    have G3 := Lib.hid (bel_tr3 G2.out g3); clear g3
    go_wp2_with fail
    refine (hys _ G3.out).mono ?_; rintro e w4 ⟨rfl, g4⟩
    have G4 := Lib.hid (bel_tr3 G3.out g4); clear g4
    clear hxe hxs hye hys
    go_wp2_with fail
    all_goals
      go_ret
      exact ⟨rfl, bel_tr3 HB.out G4.out⟩

set_option maxRecDepth 100000 in
set_option maxHeartbeats 4000000 in
theorem lg_nm (F : Interp) (n m : Nat) (w : World) (hF : F.told.answers w.tape) (hn : n ≤ 256) (hm : m ≤ 256) :
    Calls Tryz.prog 3 #[.int .i64 (n : Int), .int .i64 (m : Int), .bool false, .bool true] w fun e w' => e = .returned (.bool true) ∧ Below w.heap.size w w' := by
  have hq : eqT n false m true = false := by simp [eqT]
  have hne : ((mkS (nestT (baseL false) n)).toList == (mkS (nestT (baseL true) m)).toList) = false := mkS_ne fun h => by
    have := (texts_eq n m false true).1 h
    simp_all
  have HF := Lib.hid hF
  clear hF
  go_enter Tryz.func3, Tryz.ntmps3
  go_wp2_with fail
  refine (sel_nil _ _).mono ?_; rintro e wa ⟨r1, rfl, hm1, ba⟩
  have HA := Lib.hid ba
  have H1 := Lib.hid hm1
  clear ba hm1
  go_wp2_with fail
  refine (wrap_any (baseV false r1) (nest_iface _ r1 0) n hn _).mono ?_; rintro e w1 ⟨rfl, rfl⟩
  go_wp2_with fail
  refine (sel_map _ _).mono ?_; rintro e wb ⟨r2, rfl, hm2, bb⟩
  have HH := Lib.hid (H1.out.below bb)
  have H2 := Lib.hid hm2
  have HB := Lib.hid (bel_tr3 HA.out bb)
  clear bb hm2
  go_wp2_with fail
  refine (wrap_any (baseV true r2) (nest_iface _ r2 0) m hm _).mono ?_; rintro e w1 ⟨rfl, rfl⟩
  have kx := kn F n m true r1 r2 wb (by rw [HB.out.tape]; exact HF.out) HH.out H2.out hn
  have ky := km F m n false r2 r1 wb (by rw [HB.out.tape]; exact HF.out) H2.out HH.out hm
  rw [hq] at kx
  generalize mkS (nestT (baseL false) n) = s1 at kx ky hne
  generalize mkS (nestT (baseL true) m) = s2 at kx ky hne
  generalize nest (baseV false r1) n = u at kx ky ⊢
  generalize nest (baseV true r2) m = v at kx ky ⊢
  rcases kx with ⟨p, rfl, hxs, hxe⟩ | ⟨p, rfl, hxs, hxe⟩ <;> rcases ky with ⟨q, rfl, hys, hye⟩ | ⟨q, rfl, hys, hye⟩
  · go_wp2_with fail
    refine (hxe _ (Below.refl _ _)).mono ?_; rintro e w2 ⟨rfl, g2⟩
    have G2 := Lib.hid g2; clear g2
    go_wp2_with fail
    refine (hxs _ G2.out).mono ?_; rintro e w3 ⟨rfl, g3⟩
    have G3 := Lib.hid (bel_tr3 G2.out g3); clear g3
    go_wp2_with fail
    refine (hys _ G3.out).mono ?_; rintro e w4 ⟨rfl, g4⟩
    have G4 := Lib.hid (bel_tr3 G3.out g4); clear g4
    clear hxe hxs hye hys
    go_wp2_with fail
    all_goals
      go_ret
      exact ⟨rfl, bel_tr3 HB.out G4.out⟩
  · go_wp2_with fail
    refine (hxe _ (Below.refl _ _)).mono ?_; rintro e w2 ⟨rfl, g2⟩
    have G2 := Lib.hid g2; clear g2
    go_wp2_with fail
    refine (hxs _ G2.out).mono ?_; rintro e w3 ⟨rfl, g3⟩
    have G3 := Lib.hid (bel_tr3 G2.out g3); clear g3
    go_wp2_with fail
    refine (hys _ G3.out).mono ?_; rintro e w4 ⟨rfl, g4⟩
    have G4 := Lib.hid (bel_tr3 G3.out g4); clear g4
    clear hxe hxs hye hys
    go_wp2_with fail
    all_goals
      go_ret
      exact ⟨rfl, bel_tr3 HB.out G4.out⟩
  · go_wp2_with fail
    refine (hxe _ (Below.refl _ _)).mono ?_; rintro e w2 ⟨rfl, g2⟩
    have G2 := Lib.hid g2; clear g2
    go_wp2_with fail
    refine (hxs _ G2.out).mono ?_; rintro e w3 ⟨rfl, g3⟩
    have G3 := Lib.hid (bel_tr3 G2.out g3); clear g3
    go_wp2_with fail
    refine (hys _ G3.out).mono ?_; rintro e w4 ⟨rfl, g4⟩
    have G4 := Lib.hid (bel_tr3 G3.out g4); clear g4
    clear hxe hxs hye hys
    go_wp2_with fail
    all_goals
      go_ret
      exact ⟨rfl, bel_tr3 HB.out G4.out⟩
  · go_wp2_with fail
    refine (hxe _ (Below.refl _ _)).mono ?_; rintro e w2 ⟨rfl, g2⟩
    have G2 := Lib.hid g2; clear g2
    go_wp2_with fail
    refine (hxs _ G2.out).mono ?_; rintro e w3 ⟨rfl, g3⟩
    have G3 := Lib.hid (bel_tr3 G2.out g3); clear g3
    go_wp2_with fail
    refine (hys _ G3.out).mono ?_; rintro e w4 ⟨rfl, g4⟩
    have G4 := Lib.hid (bel_tr3 G3.out g4); clear g4
    clear hxe hxs hye hys
    go_wp2_with fail
    all_goals
      go_ret
      exact ⟨rfl, bel_tr3 HB.out G4.out⟩

set_option maxRecDepth 100000 in
set_option maxHeartbeats 4000000 in
theorem lg_mn (F : Interp) (n m : Nat) (w : World) (hF : F.told.answers w.tape) (hn : n ≤ 256) (hm : m ≤ 256) :
    Calls Tryz.prog 3 #[.int .i64 (n : Int), .int .i64 (m : Int), .bool true, .bool false] w fun e w' => e = .returned (.bool true) ∧ Below w.heap.size w w' := by
  have hq : eqT n true m false = false := by simp [eqT]
  have hne : ((mkS (nestT (baseL true) n)).toList == (mkS (nestT (baseL false) m)).toList) = false := mkS_ne fun h => by
    have := (texts_eq n m true false).1 h
    simp_all
  have HF := Lib.hid hF
  clear hF
  go_enter Tryz.func3, Tryz.ntmps3
  go_wp2_with fail
  refine (sel_map _ _).mono ?_; rintro e wa ⟨r1, rfl, hm1, ba⟩
  have HA := Lib.hid ba
  have H1 := Lib.hid hm1
  clear ba hm1
  go_wp2_with fail
  refine (wrap_any (baseV true r1) (nest_iface _ r1 0) n hn _).mono ?_; rintro e w1 ⟨rfl, rfl⟩
  go_wp2_with fail
  refine (sel_nil _ _).mono ?_; rintro e wb ⟨r2, rfl, hm2, bb⟩
  have HH := Lib.hid (H1.out.below bb)
  have H2 := Lib.hid hm2
  have HB := Lib.hid (bel_tr3 HA.out bb)
  clear bb hm2
  go_wp2_with fail
  refine (wrap_any (baseV false r2) (nest_iface _ r2 0) m hm _).mono ?_; rintro e w1 ⟨rfl, rfl⟩
  have kx := km F n m false r1 r2 wb (by rw [HB.out.tape]; exact HF.out) HH.out H2.out hn
  have ky := kn F m n true r2 r1 wb (by rw [HB.out.tape]; exact HF.out) H2.out HH.out hm
  rw [hq] at kx
  generalize mkS (nestT (baseL true) n) = s1 at kx ky hne
  generalize mkS (nestT (baseL false) m) = s2 at kx ky hne
  generalize nest (baseV true r1) n = u at kx ky ⊢
  generalize nest (baseV false r2) m = v at kx ky ⊢
  rcases kx with ⟨p, rfl, hxs, hxe⟩ | ⟨p, rfl, hxs, hxe⟩ <;> rcases ky with ⟨q, rfl, hys, hye⟩ | ⟨q, rfl, hys, hye⟩
  · go_wp2_with fail
    refine (hxe _ (Below.refl _ _)).mono ?_; rintro e w2 ⟨rfl, g2⟩
    have G2 := Lib.hid g2; clear g2
    go_wp2_with fail
    refine (hxs _ G2.out).mono ?_; rintro e w3 ⟨rfl, g3⟩
    have G3 := Lib.hid (bel_tr3 G2.out g3); clear g3
    go_wp2_with fail
    refine (hys _ G3.out).mono ?_; rintro e w4 ⟨rfl, g4⟩
    have G4 := Lib.hid (bel_tr3 G3.out g4); clear g4
    clear hxe hxs hye hys
    go_wp2_with fail
    all_goals
      go_ret
      exact ⟨rfl, bel_tr3 HB.out G4.out⟩
  · go_wp2_with fail
    refine (hxe _ (Below.refl _ _)).mono ?_; rintro e w2 ⟨rfl, g2⟩
    have G2 := Lib.hid g2; clear g2
    go_wp2_with fail
    refine (hxs _ G2.out).mono ?_; rintro e w3 ⟨rfl, g3⟩
    have G3 := Lib.hid (bel_tr3 G2.out g3); clear g3
    go_wp2_with fail
    refine (hys _ G3.out).mono ?_; rintro e w4 ⟨rfl, g4⟩
    have G4 := Lib.hid (bel_tr3 G3.out g4); clear g4
    clear hxe hxs hye hys
    go_wp2_with fail
    all_goals
      go_ret
      exact ⟨rfl, bel_tr3 HB.out G4.out⟩
  · go_wp2_with fail
    refine (hxe _ (Below.refl _ _)).mono ?_; rintro e w2 ⟨rfl, g2⟩
    have G2 := Lib.hid g2; clear g2
    go_wp2_with fail
    refine (hxs _ G2.out).mono ?_; rintro e w3 ⟨rfl, g3⟩
    have G3 := Lib.hid (bel_tr3 G2.out g3); clear g3
    go_wp2_with fail
    refine (hys _ G3.out).mono ?_; rintro e w4 ⟨rfl, g4⟩
    have G4 := Lib.hid (bel_tr3 G3.out g4); clear g4
    clear hxe hxs hye hys
    go_wp2_with fail
    all_goals
      go_ret
      exact ⟨rfl, bel_tr3 HB.out G4.out⟩
  · go_wp2_with fail
    refine (hxe _ (Below.refl _ _)).mono ?_; rintro e w2 ⟨rfl, g2⟩
    have G2 := Lib.hid g2; clear g2
    go_wp2_with fail
    refine (hxs _ G2.out).mono ?_; rintro e w3 ⟨rfl, g3⟩
    have G3 := Lib.hid (bel_tr3 G2.out g3); clear g3
    go_wp2_with fail
    refine (hys _ G3.out).mono ?_; rintro e w4 ⟨rfl, g4⟩
    have G4 := Lib.hid (bel_tr3 G3.out g4); clear g4
    clear hxe hxs hye hys
    go_wp2_with fail
    all_goals
      go_ret
      exact ⟨rfl, bel_tr3 HB.out G4.out⟩

set_option maxRecDepth 100000 in
set_option maxHeartbeats 4000000 in
theorem lg_mm_eq (F : Interp) (n : Nat) (w : World) (hF : F.told.answers w.tape) (hn : n ≤ 256) :
    Calls Tryz.prog 3 #[.int .i64 (n : Int), .int .i64 (n : Int), .bool true, .bool true] w fun e w' => e = .returned (.bool true) ∧ Below w.heap.size w w' := by
  have hq : eqT n true n true = true := by simp [eqT]
  have HF := Lib.hid hF
  clear hF
  go_enter Tryz.func3, Tryz.ntmps3
  go_wp2_with fail
  refine (sel_map _ _).mono ?_; rintro e wa ⟨r1, rfl, hm1, ba⟩
  have HA := Lib.hid ba
  have H1 := Lib.hid hm1
  clear ba hm1
  go_wp2_with fail
  refine (wrap_any (baseV true r1) (nest_iface _ r1 0) n hn _).mono ?_; rintro e w1 ⟨rfl, rfl⟩
  go_wp2_with fail
  refine (sel_map _ _).mono ?_; rintro e wb ⟨r2, rfl, hm2, bb⟩
  have HH := Lib.hid (H1.out.below bb)
  have H2 := Lib.hid hm2
  have HB := Lib.hid (bel_tr3 HA.out bb)
  clear bb hm2
  go_wp2_with fail
  refine (wrap_any (baseV true r2) (nest_iface _ r2 0) n hn _).mono ?_; rintro e w1 ⟨rfl, rfl⟩
  have kx := km F n n true r1 r2 wb (by rw [HB.out.tape]; exact HF.out) HH.out H2.out hn
  have ky := km F n n true r2 r1 wb (by rw [HB.out.tape]; exact HF.out) H2.out HH.out hn
  rw [hq] at kx
  generalize mkS (nestT (baseL true) n) = s1 at kx ky
  generalize nest (baseV true r1) n = u at kx ky ⊢
  generalize nest (baseV true r2) n = v at kx ky ⊢
  rcases kx with ⟨p, rfl, hxs, hxe⟩ | ⟨p, rfl, hxs, hxe⟩ <;> rcases ky with ⟨q, rfl, hys, hye⟩ | ⟨q, rfl, hys, hye⟩
  · go_wp2_with fail
    refine (hxe _ (Below.refl _ _)).mono ?_; rintro e w2 ⟨rfl, g2⟩
    have G2 := Lib.hid g2; clear g2
    go_wp2_with fail
    refine (hxs _ G2.out).mono ?_; rintro e w3 ⟨rfl, g3⟩
    have G3 := Lib.hid (bel_tr3 G2.out g3); clear g3
    go_wp2_with fail
    refine (hys _ G3.out).mono ?_; rintro e w4 ⟨rfl, g4⟩
    have G4 := Lib.hid (bel_tr3 G3.out g4); clear g4
    clear hxe hxs hye hys
    go_wp2_with fail
    all_goals
      go_ret
      exact ⟨rfl, bel_tr3 HB.out G4.out⟩
  · go_wp2_with fail
    refine (hxe _ (Below.refl _ _)).mono ?_; rintro e w2 ⟨rfl, g2⟩
    have G2 := Lib.hid g2; clear g2
    go_wp2_with fail
    refine (hxs _ G2.out).mono ?_; rintro e w3 ⟨rfl, g3⟩
    have G3 := Lib.hid (bel_tr3 G2.out g3); clear g3
    go_wp2_with fail
    refine (hys _ G3.out).mono ?_; rintro e w4 ⟨rfl, g4⟩
    have G4 := Lib.hid (bel_tr3 G3.out g4); clear g4
    clear hxe hxs hye hys
    go_wp2_with fail
    all_goals
      go_ret
      exact ⟨rfl, bel_tr3 HB.out G4.out⟩
  · go_wp2_with fail
    refine (hxe _ (Below.refl _ _)).mono ?_; rintro e w2 ⟨rfl, g2⟩
    have G2 := Lib.hid g2; clear g2
    go_wp2_with fail
    refine (hxs _ G2.out).mono ?_; rintro e w3 ⟨rfl, g3⟩
    have G3 := Lib.hid (bel_tr3 G2.out g3); clear g3
    go_wp2_with fail
    refine (hys _ G3.out).mono ?_; rintro e w4 ⟨rfl, g4⟩
    have G4 := Lib.hid (bel_tr3 G3.out g4); clear g4
    clear hxe hxs hye hys
    go_wp2_with fail
    all_goals
      go_ret
      exact ⟨rfl, bel_tr3 HB.out G4.out⟩
  · go_wp2_with fail
    refine (hxe _ (Below.refl _ _)).mono ?_; rintro e w2 ⟨rfl, g2⟩
    have G2 := Lib.hid g2; clear g2
    go_wp2_with fail
    refine (hxs _ G2.out).mono ?_; rintro e w3 ⟨rfl, g3⟩
    have G3 := Lib.hid (bel_tr3 G2.out g3); clear g3
    go_wp2_with fail
    refine (hys _ G3.out).mono ?_; rintro e w4 ⟨rfl, g4⟩
    have G4 := Lib.hid (bel_tr3 G3.out g4); clear g4
    clear hxe hxs hye hys
    go_wp2_with fail
    all_goals
      go_ret
      exact ⟨rfl, bel_tr3 HB.out G4.out⟩

set_option maxRecDepth 100000 in
set_option maxHeartbeats 4000000 in
theorem lg_mm (F : Interp) (n m : Nat) (w : World) (hF : F.told.answers w.tape) (hn : n ≤ 256) (hm : m ≤ 256) (hnm : ¬ n = m) :
    Calls Tryz.prog 3 #[.int .i64 (n : Int), .int .i64 (m : Int), .bool true, .bool true] w fun e w' => e = .returned (.bool true) ∧ Below w.heap.size w w' := by
  have hq : eqT n true m true = false := by simp [eqT, hnm]
  have hne : ((mkS (nestT (baseL true) n)).toList == (mkS (nestT (baseL true) m)).toList) = false := mkS_ne fun h => by
    have := (texts_eq n m true true).1 h
    simp_all
  have HF := Lib.hid hF
  clear hF
  go_enter Tryz.func3, Tryz.ntmps3
  go_wp2_with fail
  refine (sel_map _ _).mono ?_; rintro e wa ⟨r1, rfl, hm1, ba⟩
  have HA := Lib.hid ba
  have H1 := Lib.hid hm1
  clear ba hm1
  go_wp2_with fail
  refine (wrap_any (baseV true r1) (nest_iface _ r1 0) n hn _).mono ?_; rintro e w1 ⟨rfl, rfl⟩
  go_wp2_with fail
  refine (sel_map _ _).mono ?_; rintro e wb ⟨r2, rfl, hm2, bb⟩
  have HH := Lib.hid (H1.out.below bb)
  have H2 := Lib.hid hm2
  have HB := Lib.hid (bel_tr3 HA.out bb)
  clear bb hm2
  go_wp2_with fail
  refine (wrap_any (baseV true r2) (nest_iface _ r2 0) m hm _).mono ?_; rintro e w1 ⟨rfl, rfl⟩
  have kx := km F n m true r1 r2 wb (by rw [HB.out.tape]; exact HF.out) HH.out H2.out hn
  have ky := km F m n true r2 r1 wb (by rw [HB.out.tape]; exact HF.out) H2.out HH.out hm
  rw [hq] at kx
  generalize mkS (nestT (baseL true) n) = s1 at kx ky hne
  generalize mkS (nestT (baseL true) m) = s2 at kx ky hne
  have hmn : ¬ (n : Int) = (m : Int) := by omega
  generalize nest (baseV true r1) n = u at kx ky ⊢
  generalize nest (baseV true r2) m = v at kx ky ⊢
  rcases kx with ⟨p, rfl, hxs, hxe⟩ | ⟨p, rfl, hxs, hxe⟩ <;> rcases ky with ⟨q, rfl, hys, hye⟩ | ⟨q, rfl, hys, hye⟩
  · go_wp2_with fail
    refine (hxe _ (Below.refl _ _)).mono ?_; rintro e w2 ⟨rfl, g2⟩
    have G2 := Lib.hid g2; clear g2
    go_wp2_with fail
    refine (hxs _ G2.out).mono ?_; rintro e w3 ⟨rfl, g3⟩
    have G3 := Lib.hid (bel_tr3 G2.out g3); clear g3
    go_wp2_with fail
    refine (hys _ G3.out).mono ?_; rintro e w4 ⟨rfl, g4⟩
    have G4 := Lib.hid (bel_tr3 G3.out g4); clear g4
    clear hxe hxs hye hys
    go_wp2_with fail
    all_goals
      go_ret
      exact ⟨rfl, bel_tr3 HB.out G4.out⟩
  · go_wp2_with fail
    refine (hxe _ (Below.refl _ _)).mono ?_; rintro e w2 ⟨rfl, g2⟩
    have G2 := Lib.hid g2; clear g2
    go_wp2_with fail
    refine (hxs _ G2.out).mono ?_; rintro e w3 ⟨rfl, g3⟩
    have G3 := Lib.hid (bel_tr3 G2.out g3); clear g3
    go_wp2_with fail
    refine (hys _ G3.out).mono ?_; rintro e w4 ⟨rfl, g4⟩
    have G4 := Lib.hid (bel_tr3 G3.out g4); clear g4
    clear hxe hxs hye hys
    go_wp2_with fail
    all_goals
      go_ret
      exact ⟨rfl, bel_tr3 HB.out G4.out⟩
  · go_wp2_with fail
    refine (hxe _ (Below.refl _ _)).mono ?_; rintro e w2 ⟨rfl, g2⟩
    have G2 := Lib.hid g2; clear g2
    go_wp2_with fail
    refine (hxs _ G2.out).mono ?_; rintro e w3 ⟨rfl, g3⟩
    have G3 := Lib.hid (bel_tr3 G2.out g3); clear g3
    go_wp2_with fail
    refine (hys _ G3.out).mono ?_; rintro e w4 ⟨rfl, g4⟩
    have G4 := Lib.hid (bel_tr3 G3.out g4); clear g4
    clear hxe hxs hye hys
    go_wp2_with fail
    all_goals
      go_ret
      exact ⟨rfl, bel_tr3 HB.out G4.out⟩
  · go_wp2_with fail
    refine (hxe _ (Below.refl _ _)).mono ?_; rintro e w2 ⟨rfl, g2⟩
    have G2 := Lib.hid g2; clear g2
    go_wp2_with fail
    refine (hxs _ G2.out).mono ?_; rintro e w3 ⟨rfl, g3⟩
    have G3 := Lib.hid (bel_tr3 G2.out g3); clear g3
    go_wp2_with fail
    refine (hys _ G3.out).mono ?_; rintro e w4 ⟨rfl, g4⟩
    have G4 := Lib.hid (bel_tr3 G3.out g4); clear g4
    clear hxe hxs hye hys
    go_wp2_with fail
    all_goals
      go_ret
      exact ⟨rfl, bel_tr3 HB.out G4.out⟩

theorem lg_main (F : Interp) (n m : Nat) (a b : Bool) (w : World) (hF : F.told.answers w.tape) (hn : n ≤ 256) (hm : m ≤ 256) :
    Calls Tryz.prog 3 #[.int .i64 (n : Int), .int .i64 (m : Int), .bool a, .bool b] w fun e w' => e = .returned (.bool true) ∧ Below w.heap.size w w' := by
  by_cases h : n = m
  · subst h
    cases a <;> cases b
    · exact lg_nn_eq F n w hF hn
    · exact lg_nm F n n w hF hn hm
    · exact lg_mn F n n w hF hn hm
    · exact lg_mm_eq F n w hF hn
  · cases a <;> cases b
    · exact lg_nn F n m w hF hn hm h
    · exact lg_nm F n m w hF hn hm
    · exact lg_mn F n m w hF hn hm
    · exact lg_mm F n m w hF hn hm h
end Go.Proofs.YtgolkhpojmjjfaaGreatFmt

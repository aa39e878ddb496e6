/-
  What is proved here: Equal of a nested array against any nest over the three bases returns the closed form, by induction on the depth; and the same at each kind of receiver. No condition but that bases are 0, 1, 2 and that a base 2 is an empty Map in the world.
-/
import Derived.Test.YtmkbfmedkgilbaaGreatEq
namespace Go.Proofs.YtmkbfmedkgilbaaGreat
open Go.ChangeShapes Go.WideShapes Go.ChangeAt Go.RowKit

def Ans (res : Bool) (w : World) (e : Ending) (w' : World) : Prop := e = .returned (.bool res) ∧ Grown w w'

theorem base0 (r : Nat) : baseV 0 r = .iface 48 (.agg #[]) := rfl
theorem base1 (r : Nat) : baseV 1 r = .iface 49 (.agg #[]) := rfl
theorem base2 (r : Nat) : baseV 2 r = .iface 45 (.map (some r)) := rfl
theorem nest_succ (v : Value) (n : Nat) : nest v (n + 1) = .iface 51 (.agg #[nest v n]) := rfl
theorem nest_zero (v : Value) : nest v 0 = v := rfl

/-- nil's Equal. -/
theorem nil_eq (d b r : Nat) (w : World) (hb : b ≤ 2) :
    Calls Tryz.prog 57 #[.agg #[], nest (baseV b r) d] w fun e w' => e = .returned (.bool (eqT 0 1 d b)) ∧ Grown w w' := by
  rcases d with _ | d
  · rcases (show b = 0 ∨ b = 1 ∨ b = 2 by omega) with rfl | rfl | rfl
    · exact nil_any w
    · exact nil_nil w
    · exact nil_map _ w
  · have : eqT 0 1 (d + 1) b = false := by simp [eqT]
    rw [this]
    exact nil_arr _ w

/-- the empty Map's Equal. -/
theorem map_eq (d b r m : Nat) (w : World) (hb : b ≤ 2) (h1 : HasMap w 2 m) (h2 : HasMap w b r) :
    Calls Tryz.prog 10 #[.map (some m), nest (baseV b r) d] w fun e w' => e = .returned (.bool (eqT 0 2 d b)) ∧ Grown w w' := by
  rcases d with _ | d
  · rcases (show b = 0 ∨ b = 1 ∨ b = 2 by omega) with rfl | rfl | rfl
    · exact map_any _ w
    · exact map_nil _ w
    · obtain ⟨c1, g1⟩ := h1 rfl
      obtain ⟨c2, g2⟩ := h2 rfl
      exact map_map m r c1 c2 w g1 g2
  · have : eqT 0 2 (d + 1) b = false := by simp [eqT]
    rw [this]
    exact map_arr _ _ w

theorem any_eq (d b r : Nat) (w : World) :
    Calls Tryz.prog 54 #[.agg #[], nest (baseV b r) d] w fun e w' => e = .returned (.bool (eqT 0 0 d b)) ∧ Grown w w' := by
  have : eqT 0 0 d b = true := by simp [eqT]
  rw [this]
  exact any_any _ w

theorem eqT_succ (d1 b1 d2 b2 : Nat) : eqT (d1 + 1) b1 (d2 + 1) b2 = eqT d1 b1 d2 b2 := by
  unfold eqT
  congr 1
  · congr 1 <;> simp
  · congr 1
    simp

/-- array's Equal. -/
theorem arr_eq (d1 : Nat) : ∀ (d2 b1 b2 r1 r2 : Nat) (w : World), b1 ≤ 2 → b2 ≤ 2 → HasMap w b1 r1 → HasMap w b2 r2 →
    Calls Tryz.prog 60 #[.agg #[nest (baseV b1 r1) d1], nest (baseV b2 r2) d2] w fun e w' => e = .returned (.bool (eqT (d1 + 1) b1 d2 b2)) ∧ Grown w w' := by
  induction d1 with
  | zero =>
    intro d2 b1 b2 r1 r2 w hb1 hb2 h1 h2
    rcases d2 with _ | d2
    · rcases (show b2 = 0 ∨ b2 = 1 ∨ b2 = 2 by omega) with rfl | rfl | rfl
      · have : eqT (0 + 1) b1 0 0 = true := by simp [eqT]
        rw [this]; exact arr_any _ w
      · have : eqT (0 + 1) b1 0 1 = false := by simp [eqT]
        rw [this]; exact arr_nil _ _ w
      · have : eqT (0 + 1) b1 0 2 = false := by simp [eqT]
        rw [this]; exact arr_map _ _ w
    · rw [eqT_succ, nest_succ]
      obtain ⟨ty, y, hy⟩ := nest_iface b2 r2 d2
      rcases (show b1 = 0 ∨ b1 = 1 ∨ b1 = 2 by omega) with rfl | rfl | rfl
      · have : eqT 0 0 d2 b2 = true := by simp [eqT]
        rw [this, hy]; exact step_any y ty w
      · rw [hy]
        exact step_nil _ y ty _ w fun w1 g => by rw [← hy]; exact nil_eq d2 b2 r2 w1 hb2
      · rw [hy]
        exact step_map _ y ty _ w fun w1 g => by rw [← hy]; exact map_eq d2 b2 r2 r1 w1 hb2 (h1.grown g) (h2.grown g)
  | succ d1 ih =>
    intro d2 b1 b2 r1 r2 w hb1 hb2 h1 h2
    rcases d2 with _ | d2
    · rcases (show b2 = 0 ∨ b2 = 1 ∨ b2 = 2 by omega) with rfl | rfl | rfl
      · have : eqT (d1 + 1 + 1) b1 0 0 = true := by simp [eqT]
        rw [this]; exact arr_any _ w
      · have : eqT (d1 + 1 + 1) b1 0 1 = false := by simp [eqT]
        rw [this]; exact arr_nil _ _ w
      · have : eqT (d1 + 1 + 1) b1 0 2 = false := by simp [eqT]
        rw [this]; exact arr_map _ _ w
    · rw [eqT_succ, nest_succ, nest_succ]
      obtain ⟨ty, y, hy⟩ := nest_iface b2 r2 d2
      rw [hy]
      exact step_arr _ y ty _ w fun w1 g => by rw [← hy]; exact ih d2 b1 b2 r1 r2 w1 hb1 hb2 (h1.grown g) (h2.grown g)
end Go.Proofs.YtmkbfmedkgilbaaGreat

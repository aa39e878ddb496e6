/-
  What is proved here: zzBase gives the base's value and zzNest the base wrapped d times, in a world that has only grown; for base 2 the Map is the first new block. Condition: 0 <= d <= 65536 and the base is 0, 1 or 2.
-/
import Derived.Test.YtmkbfmedkgilbaaGreatInd
namespace Go.Proofs.YtmkbfmedkgilbaaGreat
open Go.ChangeShapes Go.WideShapes Go.ChangeAt Go.RowKit

theorem zany (w : World) : Calls Tryz.prog 7 #[] w fun e w' => e = .returned (.iface 48 (.agg #[])) ∧ w = w' := by
  go_enter Tryz.func7, Tryz.ntmps7
  go_wp2
  go_ret
  exact ⟨rfl, rfl⟩
theorem znil (w : World) : Calls Tryz.prog 8 #[] w fun e w' => e = .returned (.iface 49 (.agg #[])) ∧ w = w' := by
  go_enter Tryz.func8, Tryz.ntmps8
  go_wp2
  go_ret
  exact ⟨rfl, rfl⟩
theorem zarray (ty : TypeId) (x : Value) (w : World) : Calls Tryz.prog 9 #[.iface ty x] w fun e w' => e = .returned (.iface 51 (.agg #[.iface ty x])) ∧ w = w' := by
  go_enter Tryz.func9, Tryz.ntmps9
  go_wp2
  go_ret
  exact ⟨rfl, rfl⟩
theorem zbase0 (w : World) : Calls Tryz.prog 11 #[.int .i64 0] w fun e w' => e = .returned (.iface 48 (.agg #[])) ∧ w = w' := by
  go_enter Tryz.func11, Tryz.ntmps11
  go_wp2
  go_ret
  exact ⟨rfl, rfl⟩
theorem zbase1 (w : World) : Calls Tryz.prog 11 #[.int .i64 1] w fun e w' => e = .returned (.iface 49 (.agg #[])) ∧ w = w' := by
  go_enter Tryz.func11, Tryz.ntmps11
  go_wp2
  go_ret
  exact ⟨rfl, rfl⟩
theorem zbase2 (w : World) : Calls Tryz.prog 11 #[.int .i64 2] w fun e w' => e = .returned (.iface 45 (.map (some w.heap.size))) ∧ w.alloc (.map #[] 0) = w' := by
  have hmm := @run_makeMap Tryz.prog
  go_enter Tryz.func11, Tryz.ntmps11
  go_wp2
  go_ret
  exact ⟨rfl, rfl⟩

/-- the world behind zzBase b. -/
def baseW (b : Nat) (w : World) : World := if b = 2 then w.alloc (.map #[] 0) else w

theorem zbase (b : Nat) (w : World) (hb : b ≤ 2) : Calls Tryz.prog 11 #[.int .i64 b] w fun e w' => e = .returned (baseV b w.heap.size) ∧ baseW b w = w' := by
  rcases (show b = 0 ∨ b = 1 ∨ b = 2 by omega) with rfl | rfl | rfl
  · exact zbase0 w
  · exact zbase1 w
  · exact zbase2 w

theorem baseW_grown (b : Nat) (w : World) : Grown w (baseW b w) := by
  unfold baseW; split
  · exact Grown.allocMap (Grown.refl _) _ _
  · exact Grown.refl _

theorem baseW_has (b : Nat) (w : World) : HasMap (baseW b w) b w.heap.size := by
  intro h
  subst h
  exact ⟨0, heap_alloc_new w _⟩

theorem znest (d b : Nat) (w : World) (hb : b ≤ 2) (hd : d ≤ 65536) :
    Calls Tryz.prog 6 #[.int .i64 d, .int .i64 b] w fun e w' => e = .returned (nest (baseV b w.heap.size) d) ∧ baseW b w = w' := by
  generalize hv : baseV b w.heap.size = v
  have hz := zbase b w hb
  rw [hv] at hz
  have hn : ∀ n, ∃ ty y, nest v n = .iface ty y := by rw [← hv]; exact nest_iface b _
  clear hv
  have HZ := Lib.hid hz; clear hz
  have HN := Lib.hid hn; clear hn
  go_enter Tryz.func6, Tryz.ntmps6
  go_wp2_with (go_at_call 11; refine HZ.out.mono ?_; rintro e w1 ⟨rfl, rfl⟩)
  go_loop [5, 6] (fun t i => ∃ k : Nat, k ≤ d ∧ i = .int .i64 k ∧ t = nest v k) (fun _ i => d - (intOf i).toNat)
  case atStart => exact ⟨0, Nat.zero_le _, rfl, rfl⟩
  case round =>
    obtain ⟨k, hk, rfl, rfl⟩ := hrel
    obtain ⟨ty, y, hy⟩ := HN.out k
    have hs : nest v (k + 1) = .iface 51 (.agg #[nest v k]) := rfl
    rw [hy] at hs ⊢
    have HS := Lib.hid hs; clear hs
    have HY := Lib.hid hy; clear hy
    by_cases hlt : k < d
    · go_wp2_with (go_at_call 9; refine (zarray _ _ _).mono ?_; rintro e w1 ⟨rfl, rfl⟩)
      go_round
      case rel => exact ⟨k + 1, by omega, by go_num, HS.out.symm⟩
      case measure => simp [intOf]; omega
    · go_wp2
      go_ret
      obtain rfl : k = d := by omega
      exact ⟨by rw [HY.out]; rfl, rfl⟩
end Go.Proofs.YtmkbfmedkgilbaaGreat

/-
  What is proved here: zzBytes over strings answers some bool; toString; the law where there are too many strings.
-/
import Derived.Test.YthhijnemlhjpgaaGreatDs
namespace Go.Proofs.YthhijnemlhjpgaaGreat
open Go.ChangeShapes Go.WideShapes Go.ChangeAt Go.RowKit Go.Extern
set_option linter.unusedVariables false
set_option linter.unusedSimpArgs false

def SomeBool (w : World) (e : Ending) (w' : World) : Prop := ∃ r : Bool, e = .returned (.bool r) ∧ w = w'

theorem toStr_calls (p : Nat) (w : World) : Calls Tryz.prog 14 #[.iface 83 (.pointer (some ⟨p, 0, none⟩))] w fun e w' => e = .returned (.pointer (some ⟨p, 0, none⟩)) ∧ w = w' := by
  have q1 := ta_SS
  go_enter Tryz.func14, Tryz.ntmps14
  go_wp2
  go_ret
  exact ⟨rfl, rfl⟩

set_option maxRecDepth 100000 in
theorem zbS_zero (a : Option Addr) (cap : Nat) (k sp : Int) (w : World) :
    Calls Tryz.prog 13 #[.slice a 0 cap, .int .i8 k, .int .i64 sp] w (SomeBool w) := by
  go_enter Tryz.func13, Tryz.ntmps13
  go_wp2
  go_rounds 1
  go_ret
  exact ⟨_, rfl, rfl⟩

set_option maxRecDepth 100000 in
theorem zbS_any (b off n cap : Nat) (ss : List ByteArray) (k sp : Int) (w : World) (hn : n ≤ 9223372036854775807) (hc : Hid (∀ j, j < n → w.cell? ⟨b, off + j, none⟩ = some (.string (ss.getD j ByteArray.empty)))) :
    Calls Tryz.prog 13 #[.slice (some ⟨b, off, none⟩) n cap, .int .i8 k, .int .i64 sp] w (SomeBool w) := by
  by_cases hbig : n ≤ 1048576
  · go_enter Tryz.func13, Tryz.ntmps13
    go_wp2
    go_loop [7, 8] (fun t i => ∃ (m : Nat) (x : Int), m ≤ n ∧ i = .int .i64 m ∧ t = .int .i64 x) (fun _ i => n - (intOf i).toNat)
    case atStart => exact ⟨0, _, Nat.zero_le _, rfl, rfl⟩
    case round =>
      obtain ⟨m, x, hm, rfl, rfl⟩ := hrel
      by_cases hmn : m < n
      · have ck := hc.out m hmn
        go_wp2
        all_goals first | (go_ret; exact ⟨_, rfl, rfl⟩) | exact ⟨⟨m + 1, _, by omega, by go_num, rfl⟩, by simp [intOf]; omega⟩
      · obtain rfl : m = n := by omega
        go_wp2
        go_ret
        exact ⟨_, rfl, rfl⟩
  · go_enter Tryz.func13, Tryz.ntmps13
    go_wp2
    go_ret
    exact ⟨_, rfl, rfl⟩

set_option maxRecDepth 100000 in
theorem lawS_big (b off n cap : Nat) (ss : List ByteArray) (k sp : Int) (w : World) (hn : ¬ n ≤ 4096) (hm : n ≤ 9223372036854775807) (hc : Hid (∀ j, j < n → w.cell? ⟨b, off + j, none⟩ = some (.string (ss.getD j ByteArray.empty)))) :
    Calls Tryz.prog 4 #[.slice (some ⟨b, off, none⟩) n cap, .int .i8 k, .int .i64 sp] w fun e w' => e = .returned (.bool true) ∧ Below w.heap.size w w' := by
  go_enter Tryz.func4, Tryz.ntmps4
  go_wp2_with (go_at_call 13; (with_reducible refine (zbS_any _ _ _ _ ss _ _ _ hm hc).mono ?_); rintro e w1 ⟨r, rfl, rfl⟩; cases r)
  all_goals (go_ret; exact ⟨rfl, Below.refl _ _⟩)
end Go.Proofs.YthhijnemlhjpgaaGreat

/-
  What is proved here: the typed left node; the elements' row and their nodes as the law's first loop makes them; toInteger; zzBytes.
-/
import Derived.Test.YthhijnemlhjpgaaGreatDi
namespace Go.Proofs.YthhijnemlhjpgaaGreat
open Go.ChangeShapes Go.WideShapes Go.ChangeAt Go.RowKit Go.Extern
set_option linter.unusedVariables false
set_option linter.unusedSimpArgs false

structure LeftAt (w w' : World) (tv : Value) : Prop where
  below : Below w.heap.size w w'
  free : ∀ a, w'.frozen? a = w.frozen? a
  size : w.heap.size < w'.heap.size
  c2 : w'.cell? ⟨w.heap.size, 2, none⟩ = some tv

theorem frz (w : World) (c : Array Value) (t : TypeId) (a : Addr) : (w.alloc (.cells c t)).frozen? a = w.frozen? a := frozen?_alloc_cells _ _ _ _

theorem typedLeft_0m (w : World) : Calls Tryz.prog 9 #[.int .i64 0] w fun e w' => e = .returned (.pointer (some ⟨w.heap.size, 0, none⟩)) ∧ LeftAt w w' (.nilIface) :=
  (typedLeft_0 w).mono fun e w' ⟨he, hw⟩ => ⟨he, hw ▸ ⟨by go_grown, fun a => by simp only [frz, World.frozen?_drew], by go_size, by go_cell⟩⟩

theorem typedLeft_1m (w : World) : Calls Tryz.prog 9 #[.int .i64 1] w fun e w' => e = .returned (.pointer (some ⟨w.heap.size, 0, none⟩)) ∧ LeftAt w w' ((.iface 112 (.pointer (some ⟨0, 3, none⟩)))) :=
  (typedLeft_1 w).mono fun e w' ⟨he, hw⟩ => ⟨he, hw ▸ ⟨by go_grown, fun a => by simp only [frz, World.frozen?_drew], by go_size, by go_cell⟩⟩

theorem typedLeft_2m (w : World) : Calls Tryz.prog 9 #[.int .i64 2] w fun e w' => e = .returned (.pointer (some ⟨w.heap.size, 0, none⟩)) ∧ LeftAt w w' ((.iface 112 (.pointer (some ⟨0, 9, none⟩)))) :=
  (typedLeft_2 w).mono fun e w' ⟨he, hw⟩ => ⟨he, hw ▸ ⟨by go_grown, fun a => by simp only [frz, World.frozen?_drew], by go_size, by go_cell⟩⟩

structure Filled (W1 wr : World) (E n k : Nat) (ev vv : Nat → Value) : Prop where
  below : Below E W1 wr
  size : wr.heap.size = E + 1 + k
  done : ∀ j, j < k → wr.cell? ⟨E, j, none⟩ = some (ev j)
  rest : ∀ j, k ≤ j → j < n → wr.cell? ⟨E, j, none⟩ = some .nilIface
  vals : ∀ j, j < k → wr.cell? ⟨E + 1 + j, 11, none⟩ = some (vv j)
  free : ∀ a, wr.frozen? a = W1.frozen? a

theorem filled_start (W1 : World) (n : Nat) (ev vv : Nat → Value) : Filled W1 (W1.alloc (.cells (madeCells #[.nilIface] n) 56)) W1.heap.size n 0 ev vv := by
  refine ⟨(Below.refl _ _).alloc (Nat.le_refl _) _, by simp, fun j hj => absurd hj (by omega), fun j _ hj => ?_, fun j hj => absurd hj (by omega), fun a => frz _ _ _ _⟩
  rw [World.cell?_alloc_new]
  simp [madeCells, hj, Nat.mod_one]

theorem filled_step {W1 wr : World} {E n k : Nat} {ev vv : Nat → Value} (h : Filled W1 wr E n k ev vv) (hk : k < n) (c : Array Value) (t : TypeId) (hc : c[11]? = some (vv k)) :
    Filled W1 ((wr.setCell ⟨E, k, none⟩ (ev k)).alloc (.cells c t)) E n (k + 1) ev vv := by
  have hs : (wr.setCell ⟨E, k, none⟩ (ev k)).heap.size = wr.heap.size := by simp [World.setCell]
  have hE : E < wr.heap.size := by have := h.size; omega
  refine ⟨(h.below.setCell (Nat.le_refl _) _).alloc (by rw [hs]; omega) _, ?_, fun j hj => ?_, fun j h1 h2 => ?_, fun j hj => ?_, fun a => (frz _ _ _ _).trans ((World.frozen?_setCell ..).trans (h.free a))⟩
  · have := h.size
    simp [World.setCell]; omega
  · rw [World.cell?_alloc_lt _ _ _ (by rw [hs]; exact hE)]
    by_cases e : j = k
    · subst e; exact World.cell?_setCell_same _ _ _ (h.rest j (Nat.le_refl _) hk)
    · rw [World.cell?_setCell_other _ _ _ _ (fun hh => absurd (congrArg Addr.off hh) (by show ¬ k = j; omega))]; exact h.done j (by omega)
  · rw [World.cell?_alloc_lt _ _ _ (by rw [hs]; exact hE), World.cell?_setCell_other _ _ _ _ (fun hh => absurd (congrArg Addr.off hh) (by show ¬ k = j; omega))]
    exact h.rest j (by omega) h2
  · by_cases e : j = k
    · subst e
      have e2 : E + 1 + j = (wr.setCell ⟨E, j, none⟩ (ev j)).heap.size := by rw [hs, h.size]
      rw [e2, World.cell?_alloc_new]; exact hc
    · rw [World.cell?_alloc_lt _ _ _ (by rw [hs, h.size]; show E + 1 + j < _; omega), World.cell?_setCell_other _ _ _ _ (fun hh => absurd (congrArg Addr.block hh) (by show ¬ E = E + 1 + j; omega))]
      exact h.vals j (by omega)

theorem madeNodes (n : Nat) (hn : n ≤ 4096) (w : World) : (Instr.makeSlice 41 (.int .i64 n) (.int .i64 n)).run Tryz.prog w = .ok (.slice (some ⟨w.heap.size, 0, none⟩) n n) (w.alloc (.cells (madeCells #[.nilIface] n) 56)) := by
  have hinfo : (Tryz.prog.info? 56).map (fun i => (i.zero, i.size, i.bytes)) = some (some .nilIface, 1, 16) := by kernel_rfl
  obtain ⟨i0, hi, hz0, hz1, hz2⟩ := info_parts hinfo
  have := run_make w 41 56 i0 .nilIface Tryz.underlying41 hi hz0 .i64 .i64 n n (by omega) (Int.le_refl _) (by rw [hz2]; omega) (by omega)
  rw [this, hz1]
  simp [Value.cells]

theorem toInt_calls (p : Nat) (w : World) : Calls Tryz.prog 11 #[(.iface 57 (.pointer (some ⟨p, 0, none⟩)))] w fun e w' => e = .returned (.pointer (some ⟨p, 0, none⟩)) ∧ w = w' := by
  have q1 := ta_II
  go_enter Tryz.func11, Tryz.ntmps11
  go_wp2
  go_ret
  exact ⟨rfl, rfl⟩

theorem zbI_small (a : Option Addr) (n cap : Nat) (k sp : Int) (w : World) (hn : n ≤ 1048576) :
    Calls Tryz.prog 7 #[.slice a n cap, .int .i8 k, .int .i64 sp] w fun e w' => e = .returned (.bool true) ∧ w = w' := by
  go_enter Tryz.func7, Tryz.ntmps7
  go_wp2
  go_ret
  exact ⟨rfl, rfl⟩

set_option maxRecDepth 100000 in
theorem lawI_big (a : Option Addr) (n cap : Nat) (k sp : Int) (w : World) (hn : ¬ n ≤ 4096) (hm : n ≤ 9223372036854775807) :
    Calls Tryz.prog 3 #[.slice a n cap, .int .i8 k, .int .i64 sp] w fun e w' => e = .returned (.bool true) ∧ Below w.heap.size w w' := by
  by_cases h : n ≤ 1048576
  · go_enter Tryz.func3, Tryz.ntmps3
    go_wp2_with (go_at_call 7; (with_reducible refine (zbI_small _ _ _ _ _ _ h).mono ?_); rintro e w1 ⟨rfl, rfl⟩)
    go_ret
    exact ⟨rfl, Below.refl _ _⟩
  · go_enter Tryz.func3, Tryz.ntmps3
    go_wp2
    go_ret
    exact ⟨rfl, Below.refl _ _⟩
end Go.Proofs.YthhijnemlhjpgaaGreat

/-
  What is proved here: a scope with one forward goto: the code behind the label is walked from the frame in which the goto stood.
-/
import Derived.Test.YthhijnemlhjpgaaGreatIr
import Derived.ScopeJumps
import Derived.WalkMore
import Derived.LoopTactic
namespace Go.Proofs.YthhijnemlhjpgaaGreat
open Go.ChangeShapes Go.WideShapes Go.ChangeAt Go.RowKit Go.Extern
set_option linter.unusedVariables false

theorem wp_scope_forward {P : Program} {a : Act} {w : World} {Q : Exit → Act → World → Prop} {c rest : Code} (l : Nat) (hf : findLabel c l = some rest)
    (first : c.wp P (Exit.jump l (fun a' w' => rest.wp P (Exit.jump l (fun _ _ => False) Q) a' w') Q) a w) : (Code.scope c).wp P Q a w := by
  refine wp_scope_jumps l (fun a' w' => rest.wp P (Exit.jump l (fun _ _ => False) Q) a' w') (fun _ _ => 0) hf first ?_
  intro a' w' h
  refine Code.wp_mono (fun e a1 w1 hq => ?_) h
  cases e <;> simp_all [Exit.jump]

theorem ta_IS (v : Value) (w : World) : (Instr.typeAssert (.iface 57 v) 56 83 true).run Tryz.prog w = .ok (.tuple #[.pointer none, .bool false]) w := by kernel_rfl
theorem ta_DS (v : Value) (w : World) : (Instr.typeAssert (.iface 39 v) 56 83 true).run Tryz.prog w = .ok (.tuple #[.pointer none, .bool false]) w := by kernel_rfl
theorem ta_AA (v : Value) (w : World) : (Instr.typeAssert (.iface 60 v) 56 60 true).run Tryz.prog w = .ok (.tuple #[v, .bool true]) w := by kernel_rfl
theorem ta_SS (v : Value) (w : World) : (Instr.typeAssert (.iface 83 v) 56 83 true).run Tryz.prog w = .ok (.tuple #[v, .bool true]) w := by kernel_rfl
theorem ta_SI (v : Value) (w : World) : (Instr.typeAssert (.iface 83 v) 56 57 true).run Tryz.prog w = .ok (.tuple #[.pointer none, .bool false]) w := by kernel_rfl
theorem ta_CC (v : Value) (w : World) : (Instr.typeAssert (.iface 72 v) 56 72 true).run Tryz.prog w = .ok (.tuple #[v, .bool true]) w := by kernel_rfl
theorem ta_CA (v : Value) (w : World) : (Instr.typeAssert (.iface 72 v) 56 60 true).run Tryz.prog w = .ok (.tuple #[.pointer none, .bool false]) w := by kernel_rfl
theorem tp_I (v : Value) (w : World) : (Instr.typeAssert (.iface 57 v) 56 57 false).run Tryz.prog w = .ok v w := by kernel_rfl
theorem tp_S (v : Value) (w : World) : (Instr.typeAssert (.iface 83 v) 56 83 false).run Tryz.prog w = .ok v w := by kernel_rfl

set_option maxRecDepth 100000 in
set_option maxHeartbeats 1000000 in
theorem visit_empty (W : World) (u r o l a e n : Nat) (hr : r < W.heap.size) (ho : o < W.heap.size) (ha : a < W.heap.size) (hee : e < W.heap.size)
    (cr : W.cell? ⟨r, 0, none⟩ = some (.iface 63 (.pointer (some ⟨o, 0, none⟩)))) (c11 : W.cell? ⟨o, 11, none⟩ = some (.string ⟨#[105, 110]⟩)) (c12 : W.cell? ⟨o, 12, none⟩ = some (.iface 39 (.pointer (some ⟨l, 0, none⟩)))) (c13 : W.cell? ⟨o, 13, none⟩ = some (.iface 60 (.pointer (some ⟨a, 0, none⟩))))
    (ca : W.cell? ⟨a, 11, none⟩ = some (.slice (some ⟨e, 0, none⟩) n n))
    (hn : n = 0) :
    Calls Tryz.prog 24 #[.pointer (some ⟨u, 0, none⟩), .pointer (some ⟨r, 0, none⟩)] W fun e w' => e = .returned (.tuple #[]) ∧ Mod (fun _ _ => False) W w' := by
  have q1 := ta_BB
  have q2 := ta_AA
  have q3 := ta_IS
  have q4 := ta_DS
  subst hn
  go_enter Tryz.func24, Tryz.ntmps24
  go_wp2
  go_end0
  exact ⟨rfl, Mod.refl _ _⟩

set_option maxRecDepth 100000 in
set_option maxHeartbeats 1000000 in
theorem visit_untyped (W : World) (u r o l a e n : Nat) (T0 : Value) (p0 : Nat) (hr : r < W.heap.size) (ho : o < W.heap.size) (ha : a < W.heap.size) (hee : e < W.heap.size)
    (cr : W.cell? ⟨r, 0, none⟩ = some (.iface 63 (.pointer (some ⟨o, 0, none⟩)))) (c11 : W.cell? ⟨o, 11, none⟩ = some (.string ⟨#[105, 110]⟩)) (c12 : W.cell? ⟨o, 12, none⟩ = some (.iface 39 (.pointer (some ⟨l, 0, none⟩)))) (c13 : W.cell? ⟨o, 13, none⟩ = some (.iface 60 (.pointer (some ⟨a, 0, none⟩))))
    (ca : W.cell? ⟨a, 11, none⟩ = some (.slice (some ⟨e, 0, none⟩) n n))
    (hn : 0 < n) (hn2 : n ≤ 4096) (c2 : W.cell? ⟨l, 2, none⟩ = some .nilIface) (hE : W.cell? ⟨e, 0, none⟩ = some (.iface 57 (.pointer (some ⟨p0, 0, none⟩))) ∨ W.cell? ⟨e, 0, none⟩ = some (.iface 39 (.pointer (some ⟨p0, 0, none⟩)))) :
    Calls Tryz.prog 24 #[.pointer (some ⟨u, 0, none⟩), .pointer (some ⟨r, 0, none⟩)] W fun e w' => e = .returned (.tuple #[]) ∧ Mod (fun _ _ => False) W w' := by
  have q1 := ta_BB
  have q2 := ta_AA
  have q3 := ta_IS
  have q4 := ta_DS
  have t1 := invokeKind
  have t2 := kind_any
  have t3 := nilKind
  have t4 := rt_eq_nil
  rcases hE with hE | hE
  · go_enter Tryz.func24, Tryz.ntmps24
    go_wp2
    refine wp_scope_forward 0 rfl ?_
    go_wp2_with (first | (go_at_call 20; go_call (type_none _ _) as ex w1 ⟨rfl, rfl⟩))
    go_step3
    refine ⟨rfl, ?_⟩
    go_wp2
    refine wp_loop_rounds 1 ?_
    rw [rounds_succ]
    go_wp2
    simp only [Exit.jump, Exit.inBlock]
    go_returns
    exact ⟨rfl, (Mod.refl _ _).alloc _ _⟩
  · go_enter Tryz.func24, Tryz.ntmps24
    go_wp2
    refine wp_scope_forward 0 rfl ?_
    go_wp2_with (first | (go_at_call 20; go_call (type_none _ _) as ex w1 ⟨rfl, rfl⟩))
    go_step3
    refine ⟨rfl, ?_⟩
    go_wp2
    refine wp_loop_rounds 1 ?_
    rw [rounds_succ]
    go_wp2
    simp only [Exit.jump, Exit.inBlock]
    go_returns
    exact ⟨rfl, (Mod.refl _ _).alloc _ _⟩

set_option maxRecDepth 100000 in
set_option maxHeartbeats 1000000 in
theorem visit_string (W : World) (u r o l a e n : Nat) (T0 : Value) (p0 : Nat) (hr : r < W.heap.size) (ho : o < W.heap.size) (ha : a < W.heap.size) (hee : e < W.heap.size)
    (cr : W.cell? ⟨r, 0, none⟩ = some (.iface 63 (.pointer (some ⟨o, 0, none⟩)))) (c11 : W.cell? ⟨o, 11, none⟩ = some (.string ⟨#[105, 110]⟩)) (c12 : W.cell? ⟨o, 12, none⟩ = some (.iface 39 (.pointer (some ⟨l, 0, none⟩)))) (c13 : W.cell? ⟨o, 13, none⟩ = some (.iface 60 (.pointer (some ⟨a, 0, none⟩))))
    (ca : W.cell? ⟨a, 11, none⟩ = some (.slice (some ⟨e, 0, none⟩) n n))
    (hn : 0 < n) (hn2 : n ≤ 4096) (c2 : W.cell? ⟨l, 2, none⟩ = some (.iface 112 (.pointer (some ⟨0, 9, none⟩)))) (hE : W.cell? ⟨e, 0, none⟩ = some (.iface 57 (.pointer (some ⟨p0, 0, none⟩))) ∨ W.cell? ⟨e, 0, none⟩ = some (.iface 39 (.pointer (some ⟨p0, 0, none⟩)))) :
    Calls Tryz.prog 24 #[.pointer (some ⟨u, 0, none⟩), .pointer (some ⟨r, 0, none⟩)] W fun e w' => e = .returned (.tuple #[]) ∧ Mod (fun _ _ => False) W w' := by
  have q1 := ta_BB
  have q2 := ta_AA
  have q3 := ta_IS
  have q4 := ta_DS
  have t1 := invokeKind
  have t2 := kind_string
  have t3 := nilKind
  have t4 := rt_eq_nil
  rcases hE with hE | hE
  · go_enter Tryz.func24, Tryz.ntmps24
    go_wp2
    refine wp_scope_forward 0 rfl ?_
    go_wp2_with (first | (go_at_call 20; go_call (type_some _ 112 (.pointer (some ⟨0, 9, none⟩)) _) as ex w1 ⟨rfl, rfl⟩))
    go_step3
    refine ⟨rfl, ?_⟩
    go_wp2
    refine wp_loop_rounds 1 ?_
    rw [rounds_succ]
    go_wp2
    simp only [Exit.jump, Exit.inBlock]
    go_returns
    exact ⟨rfl, Mod.refl _ _⟩
  · go_enter Tryz.func24, Tryz.ntmps24
    go_wp2
    refine wp_scope_forward 0 rfl ?_
    go_wp2_with (first | (go_at_call 20; go_call (type_some _ 112 (.pointer (some ⟨0, 9, none⟩)) _) as ex w1 ⟨rfl, rfl⟩))
    go_step3
    refine ⟨rfl, ?_⟩
    go_wp2
    refine wp_loop_rounds 1 ?_
    rw [rounds_succ]
    go_wp2
    simp only [Exit.jump, Exit.inBlock]
    go_returns
    exact ⟨rfl, Mod.refl _ _⟩

set_option maxRecDepth 100000 in
set_option maxHeartbeats 1000000 in
theorem visit_spoiled (W : World) (u r o l a e n : Nat) (T0 : Value) (p0 : Nat) (hr : r < W.heap.size) (ho : o < W.heap.size) (ha : a < W.heap.size) (hee : e < W.heap.size)
    (cr : W.cell? ⟨r, 0, none⟩ = some (.iface 63 (.pointer (some ⟨o, 0, none⟩)))) (c11 : W.cell? ⟨o, 11, none⟩ = some (.string ⟨#[105, 110]⟩)) (c12 : W.cell? ⟨o, 12, none⟩ = some (.iface 39 (.pointer (some ⟨l, 0, none⟩)))) (c13 : W.cell? ⟨o, 13, none⟩ = some (.iface 60 (.pointer (some ⟨a, 0, none⟩))))
    (ca : W.cell? ⟨a, 11, none⟩ = some (.slice (some ⟨e, 0, none⟩) n n))
    (hn : 0 < n) (hn2 : n ≤ 4096) (c2 : W.cell? ⟨l, 2, none⟩ = some (.iface 112 (.pointer (some ⟨0, 3, none⟩)))) (s : Nat) (hs : s < n) (hI : Hid (∀ j, j < s → W.cell? ⟨e, j, none⟩ = some (.iface 57 (.pointer (some ⟨p0 + j, 0, none⟩))))) (hD : W.cell? ⟨e, s, none⟩ = some (.iface 39 (.pointer (some ⟨p0 + s, 0, none⟩)))) :
    Calls Tryz.prog 24 #[.pointer (some ⟨u, 0, none⟩), .pointer (some ⟨r, 0, none⟩)] W fun e w' => e = .returned (.tuple #[]) ∧ Mod (fun _ _ => False) W w' := by
  have q1 := ta_BB
  have q2 := ta_AA
  have q3 := ta_IS
  have q4 := ta_DS
  have t1 := invokeKind
  have t2 := kind_int
  have t3 := nilKind
  have t4 := rt_eq_nil
  have q5 := ta_II
  have q6 := ta_DI
  go_enter Tryz.func24, Tryz.ntmps24
  go_wp2
  refine wp_scope_forward 0 rfl ?_
  go_wp2_with (first | (go_at_call 20; go_call (type_some _ 112 (.pointer (some ⟨0, 3, none⟩)) _) as ex w1 ⟨rfl, rfl⟩))
  go_loop [67] (fun i => ∃ k : Nat, k ≤ s ∧ i = .int .i64 k) (fun i => n - (intOf i).toNat)
  case atStart => exact ⟨0, Nat.zero_le _, rfl⟩
  case round =>
    obtain ⟨k, hk, rfl⟩ := hrel
    by_cases hks : k < s
    · have hc := hI.out k hks
      go_wp2
      exact ⟨⟨k + 1, by omega, by go_num⟩, by simp [intOf]; omega⟩
    · obtain rfl : k = s := by omega
      rcases Nat.eq_zero_or_pos k with h0 | h0
      · subst h0
        go_wp2
        go_step3
        refine ⟨rfl, ?_⟩
        go_wp2
        refine wp_loop_rounds 1 ?_
        rw [rounds_succ]
        go_wp2
        simp only [Exit.jump, Exit.inBlock]
        go_returns
        exact ⟨rfl, Mod.refl _ _⟩
      · have hc := hI.out 0 h0
        go_wp2
        go_step3
        refine ⟨rfl, ?_⟩
        go_wp2
        refine wp_loop_rounds 1 ?_
        rw [rounds_succ]
        go_wp2
        simp only [Exit.jump, Exit.inBlock]
        go_returns
        exact ⟨rfl, Mod.refl _ _⟩
end Go.Proofs.YthhijnemlhjpgaaGreat

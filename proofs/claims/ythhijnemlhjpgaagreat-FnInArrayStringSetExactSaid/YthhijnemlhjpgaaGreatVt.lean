/-
  What is proved here: inArray.Visit on an array of string literals, whatever the left side's type: with one identifier among them nothing turns; else the root cell holds a new 'in' node over the set of the strings.
-/
import Derived.Test.YthhijnemlhjpgaaGreatFl
import Derived.StringKeys
namespace Go.Proofs.YthhijnemlhjpgaaGreat
open Go.ChangeShapes Go.WideShapes Go.ChangeAt Go.RowKit Go.Extern
open Go.Maps (setOf Keyed)
set_option linter.unusedVariables false
set_option linter.unusedSimpArgs false

def keysS (ss : List ByteArray) (k : Nat) : List Lit := (ss.take k).map fun s => .string s.data.toList
def setS (ss : List ByteArray) (k : Nat) : DataW Unit := setOf (.agg []) (keysS ss k)
theorem setS_zero (ss : List ByteArray) : setS ss 0 = .map [] := by simp [setS, keysS, setOf]
theorem setS_succ (ss : List ByteArray) (k : Nat) (hk : k < ss.length) : setS ss (k + 1) = (setS ss k).put (.string (ss.getD k ByteArray.empty).data.toList) (.agg []) := by
  have e : keysS ss (k + 1) = keysS ss k ++ [Lit.string (ss.getD k ByteArray.empty).data.toList] := by
    unfold keysS
    rw [List.take_add_one, List.map_append]
    simp [List.getD, List.getElem?_eq_getElem hk]
  rw [setS, e, Go.Maps.setOf_snoc]; rfl

theorem lawS : Keyed Tryz.prog 9 := Go.Maps.string_keyed Tryz.underlying9

set_option maxRecDepth 100000 in
set_option maxHeartbeats 1000000 in
theorem visitS_spoiled_0 (W : World) (u r o l a e n p0 : Nat) (hr : r < W.heap.size) (ho : o < W.heap.size) (ha : a < W.heap.size) (hee : e < W.heap.size)
    (cr : W.cell? ⟨r, 0, none⟩ = some (.iface 63 (.pointer (some ⟨o, 0, none⟩)))) (c11 : W.cell? ⟨o, 11, none⟩ = some (.string ⟨#[105, 110]⟩)) (c12 : W.cell? ⟨o, 12, none⟩ = some (.iface 39 (.pointer (some ⟨l, 0, none⟩)))) (c13 : W.cell? ⟨o, 13, none⟩ = some (.iface 60 (.pointer (some ⟨a, 0, none⟩))))
    (ca : W.cell? ⟨a, 11, none⟩ = some (.slice (some ⟨e, 0, none⟩) n n)) (hn : 0 < n) (hn2 : n ≤ 4096) (c2 : W.cell? ⟨l, 2, none⟩ = some (.nilIface)) (s : Nat) (hs : s < n) (hI : Hid (∀ j, j < s → W.cell? ⟨e, j, none⟩ = some (.iface 83 (.pointer (some ⟨p0 + j, 0, none⟩))))) (hD : W.cell? ⟨e, s, none⟩ = some (.iface 39 (.pointer (some ⟨p0 + s, 0, none⟩)))) :
    Calls Tryz.prog 24 #[.pointer (some ⟨u, 0, none⟩), .pointer (some ⟨r, 0, none⟩)] W fun e w' => e = .returned (.tuple #[]) ∧ Mod (fun _ _ => False) W w' := by
  have q1 := ta_BB
  have q2 := ta_AA
  have q3 := ta_SS
  have q4 := ta_DS
  have q5 := ta_SI
  have q6 := ta_DI
  have q7 := tp_S
  have t1 := invokeKind
  have t2 := kind_any
  have t3 := nilKind
  have t4 := rt_eq_nil
  go_enter Tryz.func24, Tryz.ntmps24
  go_wp2
  refine wp_scope_forward 0 rfl ?_
  go_wp2_with (first | (go_at_call 20; go_call (type_none _ _) as ex w1 ⟨rfl, rfl⟩))
  go_step3
  refine ⟨rfl, ?_⟩
  go_wp2
  go_loop [128] (fun i => ∃ k : Nat, k ≤ s ∧ i = .int .i64 k) (fun i => n - (intOf i).toNat)
  case atStart => exact ⟨0, Nat.zero_le _, rfl⟩
  case round =>
    obtain ⟨k, hk, rfl⟩ := hrel
    by_cases hks : k < s
    · have hc := hI.out k hks
      go_wp2
      exact ⟨⟨k + 1, by omega, by go_num⟩, by simp [intOf]; omega⟩
    · obtain rfl : k = s := by omega
      go_wp2
      simp only [Exit.jump, Exit.inBlock]
      go_returns
      exact ⟨rfl, ((Mod.refl _ _).alloc _ _)⟩

set_option maxRecDepth 100000 in
set_option maxHeartbeats 1000000 in
theorem visitS_spoiled_1 (W : World) (u r o l a e n p0 : Nat) (hr : r < W.heap.size) (ho : o < W.heap.size) (ha : a < W.heap.size) (hee : e < W.heap.size)
    (cr : W.cell? ⟨r, 0, none⟩ = some (.iface 63 (.pointer (some ⟨o, 0, none⟩)))) (c11 : W.cell? ⟨o, 11, none⟩ = some (.string ⟨#[105, 110]⟩)) (c12 : W.cell? ⟨o, 12, none⟩ = some (.iface 39 (.pointer (some ⟨l, 0, none⟩)))) (c13 : W.cell? ⟨o, 13, none⟩ = some (.iface 60 (.pointer (some ⟨a, 0, none⟩))))
    (ca : W.cell? ⟨a, 11, none⟩ = some (.slice (some ⟨e, 0, none⟩) n n)) (hn : 0 < n) (hn2 : n ≤ 4096) (c2 : W.cell? ⟨l, 2, none⟩ = some ((.iface 112 (.pointer (some ⟨0, 3, none⟩))))) (s : Nat) (hs : s < n) (hI : Hid (∀ j, j < s → W.cell? ⟨e, j, none⟩ = some (.iface 83 (.pointer (some ⟨p0 + j, 0, none⟩))))) (hD : W.cell? ⟨e, s, none⟩ = some (.iface 39 (.pointer (some ⟨p0 + s, 0, none⟩)))) :
    Calls Tryz.prog 24 #[.pointer (some ⟨u, 0, none⟩), .pointer (some ⟨r, 0, none⟩)] W fun e w' => e = .returned (.tuple #[]) ∧ Mod (fun _ _ => False) W w' := by
  have q1 := ta_BB
  have q2 := ta_AA
  have q3 := ta_SS
  have q4 := ta_DS
  have q5 := ta_SI
  have q6 := ta_DI
  have q7 := tp_S
  have t1 := invokeKind
  have t2 := kind_int
  have t3 := nilKind
  have t4 := rt_eq_nil
  rcases Nat.eq_zero_or_pos s with h0 | h0
  · subst h0
    go_enter Tryz.func24, Tryz.ntmps24
    go_wp2
    refine wp_scope_forward 0 rfl ?_
    go_wp2_with (first | (go_at_call 20; go_call (type_some _ 112 (.pointer (some ⟨0, 3, none⟩)) _) as ex w1 ⟨rfl, rfl⟩))
    refine wp_loop_rounds 1 ?_
    rw [rounds_succ]
    go_wp2
    go_step3
    refine ⟨rfl, ?_⟩
    go_wp2
    refine wp_loop_rounds 1 ?_
    rw [rounds_succ]
    go_wp2
    simp only [Exit.jump, Exit.inBlock]
    go_returns
    exact ⟨rfl, Mod.refl _ _⟩
  · have hc0 := hI.out 0 h0
    go_enter Tryz.func24, Tryz.ntmps24
    go_wp2
    refine wp_scope_forward 0 rfl ?_
    go_wp2_with (first | (go_at_call 20; go_call (type_some _ 112 (.pointer (some ⟨0, 3, none⟩)) _) as ex w1 ⟨rfl, rfl⟩))
    refine wp_loop_rounds 1 ?_
    rw [rounds_succ]
    go_wp2
    go_step3
    refine ⟨rfl, ?_⟩
    go_wp2
    go_loop [128] (fun i => ∃ k : Nat, k ≤ s ∧ i = .int .i64 k) (fun i => n - (intOf i).toNat)
    case atStart => exact ⟨0, Nat.zero_le _, rfl⟩
    case round =>
      obtain ⟨k, hk, rfl⟩ := hrel
      by_cases hks : k < s
      · have hc := hI.out k hks
        go_wp2
        exact ⟨⟨k + 1, by omega, by go_num⟩, by simp [intOf]; omega⟩
      · obtain rfl : k = s := by omega
        go_wp2
        simp only [Exit.jump, Exit.inBlock]
        go_returns
        exact ⟨rfl, (Mod.refl _ _)⟩

set_option maxRecDepth 100000 in
set_option maxHeartbeats 1000000 in
theorem visitS_spoiled_2 (W : World) (u r o l a e n p0 : Nat) (hr : r < W.heap.size) (ho : o < W.heap.size) (ha : a < W.heap.size) (hee : e < W.heap.size)
    (cr : W.cell? ⟨r, 0, none⟩ = some (.iface 63 (.pointer (some ⟨o, 0, none⟩)))) (c11 : W.cell? ⟨o, 11, none⟩ = some (.string ⟨#[105, 110]⟩)) (c12 : W.cell? ⟨o, 12, none⟩ = some (.iface 39 (.pointer (some ⟨l, 0, none⟩)))) (c13 : W.cell? ⟨o, 13, none⟩ = some (.iface 60 (.pointer (some ⟨a, 0, none⟩))))
    (ca : W.cell? ⟨a, 11, none⟩ = some (.slice (some ⟨e, 0, none⟩) n n)) (hn : 0 < n) (hn2 : n ≤ 4096) (c2 : W.cell? ⟨l, 2, none⟩ = some ((.iface 112 (.pointer (some ⟨0, 9, none⟩))))) (s : Nat) (hs : s < n) (hI : Hid (∀ j, j < s → W.cell? ⟨e, j, none⟩ = some (.iface 83 (.pointer (some ⟨p0 + j, 0, none⟩))))) (hD : W.cell? ⟨e, s, none⟩ = some (.iface 39 (.pointer (some ⟨p0 + s, 0, none⟩)))) :
    Calls Tryz.prog 24 #[.pointer (some ⟨u, 0, none⟩), .pointer (some ⟨r, 0, none⟩)] W fun e w' => e = .returned (.tuple #[]) ∧ Mod (fun _ _ => False) W w' := by
  have q1 := ta_BB
  have q2 := ta_AA
  have q3 := ta_SS
  have q4 := ta_DS
  have q5 := ta_SI
  have q6 := ta_DI
  have q7 := tp_S
  have t1 := invokeKind
  have t2 := kind_string
  have t3 := nilKind
  have t4 := rt_eq_nil
  go_enter Tryz.func24, Tryz.ntmps24
  go_wp2
  refine wp_scope_forward 0 rfl ?_
  go_wp2_with (first | (go_at_call 20; go_call (type_some _ 112 (.pointer (some ⟨0, 9, none⟩)) _) as ex w1 ⟨rfl, rfl⟩))
  go_step3
  refine ⟨rfl, ?_⟩
  go_wp2
  go_loop [128] (fun i => ∃ k : Nat, k ≤ s ∧ i = .int .i64 k) (fun i => n - (intOf i).toNat)
  case atStart => exact ⟨0, Nat.zero_le _, rfl⟩
  case round =>
    obtain ⟨k, hk, rfl⟩ := hrel
    by_cases hks : k < s
    · have hc := hI.out k hks
      go_wp2
      exact ⟨⟨k + 1, by omega, by go_num⟩, by simp [intOf]; omega⟩
    · obtain rfl : k = s := by omega
      go_wp2
      simp only [Exit.jump, Exit.inBlock]
      go_returns
      exact ⟨rfl, (Mod.refl _ _)⟩
end Go.Proofs.YthhijnemlhjpgaaGreat

/-
  What is proved here: over the three bases any, nil and the empty Map, the methods Equal of the package types return, on nested arrays, the closed form 'eqT' of the two depths and bases, and write nothing that was there. No condition but that the values are nests over a base.
-/
import Derived.Test.YtmkbfmedkgilbaaGreatRows
import Derived.WalkKit
import Derived.ProofKit
import Derived.OpenShut
import Derived.Handy
import Derived.Lib.Hide
import Derived.Laws.IdiomRangeMap
namespace Go.Proofs.YtmkbfmedkgilbaaGreat
open Go.ChangeShapes Go.WideShapes Go.ChangeAt Go.RowKit

/-- 'v' wrapped n times by Array. -/
def nest (v : Value) : Nat → Value
  | 0 => v
  | n + 1 => .iface 51 (.agg #[nest v n])

/-- the value of base b (0 any, 1 nil, 2 the empty Map in block r). -/
def baseV (b r : Nat) : Value := if b = 0 then .iface 48 (.agg #[]) else if b = 1 then .iface 49 (.agg #[]) else .iface 45 (.map (some r))

theorem teq (a b : TypeId) (h : (a == b) = false) (x y : Value) (w : World) (P : Program) (ms : Array (String × TypeId)) (hu : P.underlying 37 = some (.interface ms)) : (binOp .eql 37 (.iface a x) (.iface b y)).run P w = .ok (.bool false) w := by
  have hne : ¬ a = b := by simpa using h
  have h1 : ∀ d : Nat, (Op.equalIn (d + 1) 37 (.iface a x) (.iface b y)).run P w = .ok false w := fun d => by simp [Op.equalIn, run_underlying hu, hne]
  simp only [binOp]
  simp [Op.equal, Op.maxDepth, h1 9999]
theorem e51_48 (x y : Value) (w : World) : (binOp .eql 37 (.iface 51 x) (.iface 48 y)).run Tryz.prog w = .ok (.bool false) w := teq _ _ rfl _ _ _ _ _ Tryz.underlying37
theorem e49_48 (x y : Value) (w : World) : (binOp .eql 37 (.iface 49 x) (.iface 48 y)).run Tryz.prog w = .ok (.bool false) w := teq _ _ rfl _ _ _ _ _ Tryz.underlying37
theorem e45_48 (x y : Value) (w : World) : (binOp .eql 37 (.iface 45 x) (.iface 48 y)).run Tryz.prog w = .ok (.bool false) w := teq _ _ rfl _ _ _ _ _ Tryz.underlying37
theorem e51_49 (x y : Value) (w : World) : (binOp .eql 37 (.iface 51 x) (.iface 49 y)).run Tryz.prog w = .ok (.bool false) w := teq _ _ rfl _ _ _ _ _ Tryz.underlying37
theorem e48_49 (x y : Value) (w : World) : (binOp .eql 37 (.iface 48 x) (.iface 49 y)).run Tryz.prog w = .ok (.bool false) w := teq _ _ rfl _ _ _ _ _ Tryz.underlying37
theorem e45_49 (x y : Value) (w : World) : (binOp .eql 37 (.iface 45 x) (.iface 49 y)).run Tryz.prog w = .ok (.bool false) w := teq _ _ rfl _ _ _ _ _ Tryz.underlying37
theorem e48_48 (w : World) : (binOp .eql 37 (.iface 48 (.agg #[])) (.iface 48 (.agg #[]))).run Tryz.prog w = .ok (.bool true) w := by kernel_rfl
theorem e49_49 (w : World) : (binOp .eql 37 (.iface 49 (.agg #[])) (.iface 49 (.agg #[]))).run Tryz.prog w = .ok (.bool true) w := by kernel_rfl

theorem any_any (t : Value) (w : World) :
    Calls Tryz.prog 54 #[.agg #[], t] w fun e w' => e = .returned (.bool true) ∧ Grown w w' := by
  go_enter Tryz.func54, Tryz.ntmps54
  go_wp2
  go_ret
  exact ⟨rfl, by go_grown⟩

theorem nil_any (w : World) :
    Calls Tryz.prog 57 #[.agg #[], .iface 48 (.agg #[])] w fun e w' => e = .returned (.bool true) ∧ Grown w w' := by
  have h1 := e48_48
  go_enter Tryz.func57, Tryz.ntmps57
  go_wp2
  go_ret
  exact ⟨rfl, by go_grown⟩

theorem nil_nil (w : World) :
    Calls Tryz.prog 57 #[.agg #[], .iface 49 (.agg #[])] w fun e w' => e = .returned (.bool true) ∧ Grown w w' := by
  have h1 := e49_48
  have h2 := e49_49
  go_enter Tryz.func57, Tryz.ntmps57
  go_wp2
  go_ret
  exact ⟨rfl, by go_grown⟩

theorem nil_map (x : Value) (w : World) :
    Calls Tryz.prog 57 #[.agg #[], .iface 45 x] w fun e w' => e = .returned (.bool false) ∧ Grown w w' := by
  have h1 := e45_48
  have h2 := e45_49
  go_enter Tryz.func57, Tryz.ntmps57
  go_wp2
  go_ret
  exact ⟨rfl, by go_grown⟩

theorem nil_arr (x : Value) (w : World) :
    Calls Tryz.prog 57 #[.agg #[], .iface 51 x] w fun e w' => e = .returned (.bool false) ∧ Grown w w' := by
  have h1 := e51_48
  have h2 := e51_49
  go_enter Tryz.func57, Tryz.ntmps57
  go_wp2
  go_ret
  exact ⟨rfl, by go_grown⟩

theorem map_any (m : Value) (w : World) :
    Calls Tryz.prog 10 #[m, .iface 48 (.agg #[])] w fun e w' => e = .returned (.bool true) ∧ Grown w w' := by
  have h1 := e48_48
  go_enter Tryz.func10, Tryz.ntmps10
  go_wp2
  go_ret
  exact ⟨rfl, by go_grown⟩

theorem a49_45 (v : Value) (w : World) : (Instr.typeAssert (.iface 49 v) 37 45 true).run Tryz.prog w = .ok (.tuple #[.map none, .bool false]) w := by kernel_rfl
theorem a51_45 (v : Value) (w : World) : (Instr.typeAssert (.iface 51 v) 37 45 true).run Tryz.prog w = .ok (.tuple #[.map none, .bool false]) w := by kernel_rfl
theorem a45_45 (v : Value) (w : World) : (Instr.typeAssert (.iface 45 v) 37 45 true).run Tryz.prog w = .ok (.tuple #[v, .bool true]) w := by kernel_rfl
theorem a49_51 (v : Value) (w : World) : (Instr.typeAssert (.iface 49 v) 37 51 true).run Tryz.prog w = .ok (.tuple #[.agg #[.nilIface], .bool false]) w := by kernel_rfl
theorem a45_51 (v : Value) (w : World) : (Instr.typeAssert (.iface 45 v) 37 51 true).run Tryz.prog w = .ok (.tuple #[.agg #[.nilIface], .bool false]) w := by kernel_rfl
theorem a51_51 (v : Value) (w : World) : (Instr.typeAssert (.iface 51 v) 37 51 true).run Tryz.prog w = .ok (.tuple #[v, .bool true]) w := by kernel_rfl

theorem map_nil (m : Value) (w : World) :
    Calls Tryz.prog 10 #[m, .iface 49 (.agg #[])] w fun e w' => e = .returned (.bool false) ∧ Grown w w' := by
  have h1 := e49_48
  have h2 := a49_45
  go_enter Tryz.func10, Tryz.ntmps10
  go_wp2
  go_ret
  exact ⟨rfl, by go_grown⟩

theorem map_arr (m x : Value) (w : World) :
    Calls Tryz.prog 10 #[m, .iface 51 x] w fun e w' => e = .returned (.bool false) ∧ Grown w w' := by
  have h1 := e51_48
  have h2 := a51_45
  go_enter Tryz.func10, Tryz.ntmps10
  go_wp2
  go_ret
  exact ⟨rfl, by go_grown⟩

theorem arr_any (m : Value) (w : World) :
    Calls Tryz.prog 60 #[.agg #[m], .iface 48 (.agg #[])] w fun e w' => e = .returned (.bool true) ∧ Grown w w' := by
  have h1 := e48_48
  go_enter Tryz.func60, Tryz.ntmps60
  go_wp2
  go_ret
  exact ⟨rfl, by go_grown⟩

set_option maxRecDepth 100000 in
theorem arr_nil (m x : Value) (w : World) :
    Calls Tryz.prog 60 #[.agg #[m], .iface 49 x] w fun e w' => e = .returned (.bool false) ∧ Grown w w' := by
  have h1 := e49_48
  have h2 := a49_51
  go_enter Tryz.func60, Tryz.ntmps60
  go_wp2
  go_ret
  exact ⟨rfl, by go_grown⟩

set_option maxRecDepth 100000 in
theorem arr_map (m x : Value) (w : World) :
    Calls Tryz.prog 60 #[.agg #[m], .iface 45 x] w fun e w' => e = .returned (.bool false) ∧ Grown w w' := by
  have h1 := e45_48
  have h2 := a45_51
  go_enter Tryz.func60, Tryz.ntmps60
  go_wp2
  go_ret
  exact ⟨rfl, by go_grown⟩

theorem run_len_empty (r c : Nat) (ty : TypeId) (w : World) (h : w.heap[r]? = some (.map #[] c)) :
    (Builtin.len_ #[45] ty #[.map (some r)]).run Tryz.prog w = .ok (.int .i64 0) w := by
  simp [Builtin.len_, run_underlying Tryz.underlying45, MapKept.run_getObj_map h, goInt]

theorem next_empty (w : World) (ty : TypeId) (r c : Nat) (h : w.heap[r]? = some (.map #[] c)) :
    (Instr.next (.pointer (some ⟨w.heap.size, 0, none⟩)) false ty).run Tryz.prog (w.alloc (.mapIter (some r) c #[] c)) = .ok (.tuple #[.bool false]) (w.alloc (.mapIter (some r) c #[] c)) := by
  rcases run_next_map (P := Tryz.prog) w ty r c c #[] #[] c h (by simp) (Nat.le_refl _) with ⟨_, h2⟩ | ⟨e, he, _⟩
  · exact h2
  · simp [leftOf] at he

theorem Grown.allocIter {W w' : World} (h : Grown W w') (m : Option Nat) (c : Nat) (s : Array Nat) (d : Nat) : Grown W (w'.alloc (.mapIter m c s d)) := by
  refine ⟨World.keptBut_trans h.1 (World.keptBut_alloc _ _ _), fun a => ?_, Nat.le_trans h.2.2 (by show w'.heap.size ≤ (w'.heap.push _).size; simp)⟩
  rw [← h.2.1 a]
  by_cases hb : a.block = w'.heap.size
  · have e1 : (w'.alloc (.mapIter m c s d)).heap[a.block]? = some (.mapIter m c s d) := by rw [hb]; exact (MapKept.heap_alloc w' _).1
    have e2 : w'.heap[a.block]? = none := by rw [hb]; simp
    simp [World.frozen?, e1, e2]
  · exact World.frozen?_alloc_old _ _ _ hb

set_option maxRecDepth 100000 in
theorem map_map (r1 r2 c1 c2 : Nat) (w : World) (h1 : w.heap[r1]? = some (.map #[] c1)) (h2 : w.heap[r2]? = some (.map #[] c2)) :
    Calls Tryz.prog 10 #[.map (some r1), .iface 45 (.map (some r2))] w fun e w' => e = .returned (.bool true) ∧ Grown w w' := by
  have h3 := e45_48
  have h4 := a45_45
  have h5 := fun ty => run_len_empty r1 c1 ty w h1
  have h6 := fun ty => run_len_empty r2 c2 ty w h2
  have h7 := run_range_map (P := Tryz.prog) w 45 9 37 r1 #[] c1 Tryz.underlying45 h1
  have h8 := fun ty => next_empty w ty r1 c1 h1
  clear h1 h2
  go_enter Tryz.func10, Tryz.ntmps10
  go_wp2
  go_rounds 1
  go_ret
  exact ⟨rfl, Grown.allocIter (Grown.refl _) _ _ _ _⟩

theorem grown_trans {a b c : World} (h : Grown a b) (g : Grown b c) : Grown a c :=
  ⟨World.keptBut_trans h.1 g.1, fun x => (g.2.1 x).trans (h.2.1 x), Nat.le_trans h.2.2 g.2.2⟩

set_option maxRecDepth 100000 in
theorem step_any (y : Value) (ty : TypeId) (w : World) :
    Calls Tryz.prog 60 #[.agg #[.iface 48 (.agg #[])], .iface 51 (.agg #[.iface ty y])] w fun e w' => e = .returned (.bool true) ∧ Grown w w' := by
  have h1 := e51_48
  have h2 := a51_51
  go_enter Tryz.func60, Tryz.ntmps60
  go_wp2_with (go_at_call 54; refine (any_any _ _).mono ?_; rintro e w1 ⟨rfl, hg⟩)
  go_ret
  exact ⟨rfl, grown_trans (by go_grown) hg⟩

set_option maxRecDepth 100000 in
theorem step_nil (x y : Value) (ty : TypeId) (res : Bool) (w : World) (h : ∀ w1, Grown w w1 → Calls Tryz.prog 57 #[x, .iface ty y] w1 fun e w' => e = .returned (.bool res) ∧ Grown w1 w') :
    Calls Tryz.prog 60 #[.agg #[.iface 49 x], .iface 51 (.agg #[.iface ty y])] w fun e w' => e = .returned (.bool res) ∧ Grown w w' := by
  have H := Lib.hid h; clear h
  have h1 := e51_48
  have h2 := a51_51
  cases res
  all_goals
    go_enter Tryz.func60, Tryz.ntmps60
    go_wp2_with (go_at_call 57; refine (H.out _ (by go_grown)).mono ?_; rintro e w1 ⟨rfl, hg⟩)
    go_ret
    exact ⟨rfl, grown_trans (by go_grown) hg⟩

set_option maxRecDepth 100000 in
theorem step_map (x y : Value) (ty : TypeId) (res : Bool) (w : World) (h : ∀ w1, Grown w w1 → Calls Tryz.prog 10 #[x, .iface ty y] w1 fun e w' => e = .returned (.bool res) ∧ Grown w1 w') :
    Calls Tryz.prog 60 #[.agg #[.iface 45 x], .iface 51 (.agg #[.iface ty y])] w fun e w' => e = .returned (.bool res) ∧ Grown w w' := by
  have H := Lib.hid h; clear h
  have h1 := e51_48
  have h2 := a51_51
  cases res
  all_goals
    go_enter Tryz.func60, Tryz.ntmps60
    go_wp2_with (go_at_call 10; refine (H.out _ (by go_grown)).mono ?_; rintro e w1 ⟨rfl, hg⟩)
    go_ret
    exact ⟨rfl, grown_trans (by go_grown) hg⟩

set_option maxRecDepth 100000 in
theorem step_arr (x y : Value) (ty : TypeId) (res : Bool) (w : World) (h : ∀ w1, Grown w w1 → Calls Tryz.prog 60 #[x, .iface ty y] w1 fun e w' => e = .returned (.bool res) ∧ Grown w1 w') :
    Calls Tryz.prog 60 #[.agg #[.iface 51 x], .iface 51 (.agg #[.iface ty y])] w fun e w' => e = .returned (.bool res) ∧ Grown w w' := by
  have H := Lib.hid h; clear h
  have h1 := e51_48
  have h2 := a51_51
  cases res
  all_goals
    go_enter Tryz.func60, Tryz.ntmps60
    go_wp2_with (go_at_call 60; refine (H.out _ (by go_grown)).mono ?_; rintro e w1 ⟨rfl, hg⟩)
    go_ret
    exact ⟨rfl, grown_trans (by go_grown) hg⟩

/-- the closed form of Equal, over depths and bases. -/
def eqT (d1 b1 d2 b2 : Nat) : Bool := (b1 == 0 && decide (d1 ≤ d2)) || (b2 == 0 && decide (d2 ≤ d1)) || (d1 == d2 && b1 == b2)

def HasMap (w : World) (b r : Nat) : Prop := b = 2 → ∃ c, w.heap[r]? = some (.map #[] c)

theorem HasMap.grown {w w' : World} {b r : Nat} (h : HasMap w b r) (g : Grown w w') : HasMap w' b r := by
  intro hb
  obtain ⟨c, hc⟩ := h hb
  have hlt : r < w.heap.size := by
    rcases Nat.lt_or_ge r w.heap.size with h | h
    · exact h
    · simp [Array.getElem?_eq_none h] at hc
  have h3 := g.1.2.2 r hlt
  rw [hc] at h3
  cases hw : w'.heap[r]? with
  | none => rw [hw] at h3; exact absurd h3 (by simp)
  | some o =>
    rw [hw] at h3
    cases o with
    | map es cl => exact ⟨cl, by rw [(h3.resolve_left id).1]⟩
    | _ => exact absurd h3 (by simp)

theorem nest_iface (b r n : Nat) : ∃ ty y, nest (baseV b r) n = .iface ty y := by
  cases n with
  | zero => unfold nest baseV; split; exact ⟨_, _, rfl⟩; split <;> exact ⟨_, _, rfl⟩
  | succ n => exact ⟨_, _, rfl⟩

end Go.Proofs.YtmkbfmedkgilbaaGreat

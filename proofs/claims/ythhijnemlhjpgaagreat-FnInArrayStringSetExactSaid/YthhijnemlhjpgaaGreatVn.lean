/-
  What is proved here: nature.FromType and SetType at the two set types; 'ModB': as 'Mod', its word on frozen cells for old blocks alone.
-/
import Derived.Test.YthhijnemlhjpgaaGreatVs
import Derived.Maps.OwnSet
namespace Go.Proofs.YthhijnemlhjpgaaGreat
open Go.ChangeShapes Go.WideShapes Go.ChangeAt Go.RowKit Go.Extern
set_option linter.unusedVariables false

structure ModB (T : Nat → Nat → Prop) (w w' : World) : Prop where
  os : w'.os = w.os
  tape : w'.tape = w.tape
  output : w'.output = w.output
  size : w.heap.size ≤ w'.heap.size
  cell : ∀ k o, k < w.heap.size → ¬ T k o → w'.cell? ⟨k, o, none⟩ = w.cell? ⟨k, o, none⟩
  block : ∀ k, k < w.heap.size → (∀ o, ¬ T k o) → w'.heap[k]? = w.heap[k]?
  frozen : ∀ k o, k < w.heap.size → w'.frozen? ⟨k, o, none⟩ = w.frozen? ⟨k, o, none⟩

theorem Mod.toB {T : Nat → Nat → Prop} {a b : World} (h : Mod T a b) : ModB T a b := ⟨h.os, h.tape, h.output, h.size, h.cell, h.block, fun k o _ => h.frozen _⟩

theorem Below.toB {T : Nat → Nat → Prop} {a b : World} (h : Below a.heap.size a b) : ModB T a b :=
  ⟨h.os, h.tape, h.output, h.size, fun k o hk _ => h.cell (p := ⟨k, o, none⟩) hk, fun k hk _ => h.block k hk, fun k o hk => h.frozen (p := ⟨k, o, none⟩) hk⟩

theorem ModB.trans {T : Nat → Nat → Prop} {a b c : World} (h : ModB T a b) (g : ModB T b c) : ModB T a c :=
  ⟨g.os.trans h.os, g.tape.trans h.tape, g.output.trans h.output, Nat.le_trans h.size g.size,
   fun k o hk hT => (g.cell k o (Nat.lt_of_lt_of_le hk h.size) hT).trans (h.cell k o hk hT),
   fun k hk hT => (g.block k (Nat.lt_of_lt_of_le hk h.size) hT).trans (h.block k hk hT), fun k o hk => (g.frozen k o (Nat.lt_of_lt_of_le hk h.size)).trans (h.frozen k o hk)⟩

/-- the second step may write what the first has made. -/
theorem ModB.transM {T U : Nat → Nat → Prop} {a b c : World} (h : ModB T a b) (g : ModB U b c) (hU : ∀ k o, k < a.heap.size → U k o → T k o) : ModB T a c :=
  ⟨g.os.trans h.os, g.tape.trans h.tape, g.output.trans h.output, Nat.le_trans h.size g.size,
   fun k o hk hT => (g.cell k o (Nat.lt_of_lt_of_le hk h.size) (fun t => hT (hU k o hk t))).trans (h.cell k o hk hT),
   fun k hk hT => (g.block k (Nat.lt_of_lt_of_le hk h.size) (fun o t => hT o (hU k o hk t))).trans (h.block k hk hT), fun k o hk => (g.frozen k o (Nat.lt_of_lt_of_le hk h.size)).trans (h.frozen k o hk)⟩

theorem ModB.get {T : Nat → Nat → Prop} {a b : World} (h : ModB T a b) {k o : Nat} {v : Value} (hk : k < a.heap.size) (hT : ¬ T k o) (hc : a.cell? ⟨k, o, none⟩ = some v) : b.cell? ⟨k, o, none⟩ = some v :=
  (h.cell k o hk hT).trans hc

theorem ModB.below {T : Nat → Nat → Prop} {a b : World} (h : ModB T a b) (B : Nat) (hB : B ≤ a.heap.size) (hT : ∀ k o, T k o → B ≤ k) : Below B a b :=
  ⟨h.os, h.tape, h.output, h.size, fun k hk => h.block k (by omega) (fun o t => by have := hT k o t; omega)⟩

theorem ownsMap_moved {H : Type} {P : Program} {k : TypeId} {R : Value → Option (DataW H × List MemPlace)} {w w' : World} {b n : Nat} {D : DataW H} (h : w.ownsMap P k R b n D) (e : w'.heap[b]? = w.heap[b]?) : w'.ownsMap P k R b n D := by
  obtain ⟨es, clock, hb, r⟩ := h
  exact ⟨es, clock, e.trans hb, r⟩

theorem kind_mi (w : World) : (callFunc 157 #[.pointer (some ⟨0, 74, none⟩)]).run Tryz.prog w = .ok (.value (.int .u64 21)) w := by kernel_rfl

set_option maxRecDepth 100000 in
theorem cacheFromType_mi (w : World) :
    Calls Tryz.prog 40 #[.pointer none, (.iface 112 (.pointer (some ⟨0, 74, none⟩)))] w fun e w' => e = .returned (.agg #[(.iface 112 (.pointer (some ⟨0, 74, none⟩))), .int .u64 21, .pointer none, .pointer none, .bool false, .bool false, .bool false, .bool false, .bool false]) ∧ w' = w.alloc (.cells #[(.iface 112 (.pointer (some ⟨0, 74, none⟩))), .int .u64 21, .pointer none, .pointer none, .bool false, .bool false, .bool false, .bool false, .bool false] 50) := by
  have h2 := kind_mi
  have h3 := invokeKind
  have h4 := nilKind
  have h5 := rt_eq_nil
  go_enter Tryz.func40, Tryz.ntmps40
  go_wp2
  go_returns
  exact ⟨rfl, rfl⟩

theorem fromType_mi (w : World) :
    Calls Tryz.prog 35 #[(.iface 112 (.pointer (some ⟨0, 74, none⟩)))] w fun e w' => e = .returned (.agg #[(.iface 112 (.pointer (some ⟨0, 74, none⟩))), .int .u64 21, .pointer none, .pointer none, .bool false, .bool false, .bool false, .bool false, .bool false]) ∧ w' = (w.alloc (.cells #[(.iface 112 (.pointer (some ⟨0, 74, none⟩))), .int .u64 21, .pointer none, .pointer none, .bool false, .bool false, .bool false, .bool false, .bool false] 50)).alloc (.cells #[(.iface 112 (.pointer (some ⟨0, 74, none⟩))), .int .u64 21, .pointer none, .pointer none, .bool false, .bool false, .bool false, .bool false, .bool false] 50) := by
  go_enter Tryz.func35, Tryz.ntmps35
  go_wp2_with (go_at_call 40; (with_reducible refine (cacheFromType_mi _).mono ?_); rintro e w1 ⟨rfl, rfl⟩)
  go_returns
  exact ⟨rfl, rfl⟩

set_option maxRecDepth 100000 in
theorem setType_mi (b : Nat) (w : World) (hb : b < w.heap.size) (c0 : w.cell? ⟨b, 2, none⟩ = some (.nilIface)) (f0 : w.frozen? ⟨b, 2, none⟩ = false) (c1 : w.cell? ⟨b, 3, none⟩ = some (.int .u64 0)) (f1 : w.frozen? ⟨b, 3, none⟩ = false) (c2 : w.cell? ⟨b, 4, none⟩ = some (.pointer none)) (f2 : w.frozen? ⟨b, 4, none⟩ = false) (c3 : w.cell? ⟨b, 5, none⟩ = some (.pointer none)) (f3 : w.frozen? ⟨b, 5, none⟩ = false) (c4 : w.cell? ⟨b, 6, none⟩ = some (.bool false)) (f4 : w.frozen? ⟨b, 6, none⟩ = false) (c5 : w.cell? ⟨b, 7, none⟩ = some (.bool false)) (f5 : w.frozen? ⟨b, 7, none⟩ = false) (c6 : w.cell? ⟨b, 8, none⟩ = some (.bool false)) (f6 : w.frozen? ⟨b, 8, none⟩ = false) (c7 : w.cell? ⟨b, 9, none⟩ = some (.bool false)) (f7 : w.frozen? ⟨b, 9, none⟩ = false) (c8 : w.cell? ⟨b, 10, none⟩ = some (.bool false)) (f8 : w.frozen? ⟨b, 10, none⟩ = false) :
    Calls Tryz.prog 32 #[.pointer (some ⟨b, 0, none⟩), (.iface 112 (.pointer (some ⟨0, 74, none⟩)))] w fun e w' => e = .returned (.tuple #[]) ∧ w' = (((((((((((w).setCell ⟨b, 2, none⟩ ((.iface 112 (.pointer (some ⟨0, 74, none⟩))))).setCell ⟨b, 3, none⟩ (.int .u64 21)).setCell ⟨b, 4, none⟩ (.pointer none)).setCell ⟨b, 5, none⟩ (.pointer none)).setCell ⟨b, 6, none⟩ (.bool false)).setCell ⟨b, 7, none⟩ (.bool false)).setCell ⟨b, 8, none⟩ (.bool false)).setCell ⟨b, 9, none⟩ (.bool false)).setCell ⟨b, 10, none⟩ (.bool false)).alloc (.cells #[(.iface 112 (.pointer (some ⟨0, 74, none⟩))), .int .u64 21, .pointer none, .pointer none, .bool false, .bool false, .bool false, .bool false, .bool false] 50)).alloc (.cells #[(.iface 112 (.pointer (some ⟨0, 74, none⟩))), .int .u64 21, .pointer none, .pointer none, .bool false, .bool false, .bool false, .bool false, .bool false] 50) := by
  go_enter Tryz.func32, Tryz.ntmps32
  go_wp2_with (go_at_call 35; (with_reducible refine (fromType_mi _).mono ?_); rintro e w1 ⟨rfl, rfl⟩)
  go_end0
  exact ⟨rfl, rfl⟩

theorem setType_mi_m (T : Nat → Nat → Prop) (b : Nat) (w : World) (hT : ∀ o, 2 ≤ o → o < 11 → T b o) (hb : b < w.heap.size) (c0 : w.cell? ⟨b, 2, none⟩ = some (.nilIface)) (f0 : w.frozen? ⟨b, 2, none⟩ = false) (c1 : w.cell? ⟨b, 3, none⟩ = some (.int .u64 0)) (f1 : w.frozen? ⟨b, 3, none⟩ = false) (c2 : w.cell? ⟨b, 4, none⟩ = some (.pointer none)) (f2 : w.frozen? ⟨b, 4, none⟩ = false) (c3 : w.cell? ⟨b, 5, none⟩ = some (.pointer none)) (f3 : w.frozen? ⟨b, 5, none⟩ = false) (c4 : w.cell? ⟨b, 6, none⟩ = some (.bool false)) (f4 : w.frozen? ⟨b, 6, none⟩ = false) (c5 : w.cell? ⟨b, 7, none⟩ = some (.bool false)) (f5 : w.frozen? ⟨b, 7, none⟩ = false) (c6 : w.cell? ⟨b, 8, none⟩ = some (.bool false)) (f6 : w.frozen? ⟨b, 8, none⟩ = false) (c7 : w.cell? ⟨b, 9, none⟩ = some (.bool false)) (f7 : w.frozen? ⟨b, 9, none⟩ = false) (c8 : w.cell? ⟨b, 10, none⟩ = some (.bool false)) (f8 : w.frozen? ⟨b, 10, none⟩ = false) :
    Calls Tryz.prog 32 #[.pointer (some ⟨b, 0, none⟩), (.iface 112 (.pointer (some ⟨0, 74, none⟩)))] w fun e w' => e = .returned (.tuple #[]) ∧ Mod T w w' :=
  (setType_mi b w hb c0 f0 c1 f1 c2 f2 c3 f3 c4 f4 c5 f5 c6 f6 c7 f7 c8 f8).mono fun _ _ ⟨he, hw⟩ => ⟨he, hw ▸ (((((((((((Mod.refl T w).setCell (Or.inr (hT _ (by omega) (by omega))) _).setCell (Or.inr (hT _ (by omega) (by omega))) _).setCell (Or.inr (hT _ (by omega) (by omega))) _).setCell (Or.inr (hT _ (by omega) (by omega))) _).setCell (Or.inr (hT _ (by omega) (by omega))) _).setCell (Or.inr (hT _ (by omega) (by omega))) _).setCell (Or.inr (hT _ (by omega) (by omega))) _).setCell (Or.inr (hT _ (by omega) (by omega))) _).setCell (Or.inr (hT _ (by omega) (by omega))) _).alloc _ _).alloc _ _⟩

theorem typeOf_mi (w : World) (q : Option Nat) :
    (callFunc 33 #[.iface 74 (.map q)]).run Tryz.prog w = .ok (.value (.iface 112 (.pointer (some ⟨0, 74, none⟩)))) w := typeOf_call _ _ w

theorem kind_ms (w : World) : (callFunc 157 #[.pointer (some ⟨0, 86, none⟩)]).run Tryz.prog w = .ok (.value (.int .u64 21)) w := by kernel_rfl

set_option maxRecDepth 100000 in
theorem cacheFromType_ms (w : World) :
    Calls Tryz.prog 40 #[.pointer none, (.iface 112 (.pointer (some ⟨0, 86, none⟩)))] w fun e w' => e = .returned (.agg #[(.iface 112 (.pointer (some ⟨0, 86, none⟩))), .int .u64 21, .pointer none, .pointer none, .bool false, .bool false, .bool false, .bool false, .bool false]) ∧ w' = w.alloc (.cells #[(.iface 112 (.pointer (some ⟨0, 86, none⟩))), .int .u64 21, .pointer none, .pointer none, .bool false, .bool false, .bool false, .bool false, .bool false] 50) := by
  have h2 := kind_ms
  have h3 := invokeKind
  have h4 := nilKind
  have h5 := rt_eq_nil
  go_enter Tryz.func40, Tryz.ntmps40
  go_wp2
  go_returns
  exact ⟨rfl, rfl⟩

theorem fromType_ms (w : World) :
    Calls Tryz.prog 35 #[(.iface 112 (.pointer (some ⟨0, 86, none⟩)))] w fun e w' => e = .returned (.agg #[(.iface 112 (.pointer (some ⟨0, 86, none⟩))), .int .u64 21, .pointer none, .pointer none, .bool false, .bool false, .bool false, .bool false, .bool false]) ∧ w' = (w.alloc (.cells #[(.iface 112 (.pointer (some ⟨0, 86, none⟩))), .int .u64 21, .pointer none, .pointer none, .bool false, .bool false, .bool false, .bool false, .bool false] 50)).alloc (.cells #[(.iface 112 (.pointer (some ⟨0, 86, none⟩))), .int .u64 21, .pointer none, .pointer none, .bool false, .bool false, .bool false, .bool false, .bool false] 50) := by
  go_enter Tryz.func35, Tryz.ntmps35
  go_wp2_with (go_at_call 40; (with_reducible refine (cacheFromType_ms _).mono ?_); rintro e w1 ⟨rfl, rfl⟩)
  go_returns
  exact ⟨rfl, rfl⟩

set_option maxRecDepth 100000 in
theorem setType_ms (b : Nat) (w : World) (hb : b < w.heap.size) (c0 : w.cell? ⟨b, 2, none⟩ = some (.nilIface)) (f0 : w.frozen? ⟨b, 2, none⟩ = false) (c1 : w.cell? ⟨b, 3, none⟩ = some (.int .u64 0)) (f1 : w.frozen? ⟨b, 3, none⟩ = false) (c2 : w.cell? ⟨b, 4, none⟩ = some (.pointer none)) (f2 : w.frozen? ⟨b, 4, none⟩ = false) (c3 : w.cell? ⟨b, 5, none⟩ = some (.pointer none)) (f3 : w.frozen? ⟨b, 5, none⟩ = false) (c4 : w.cell? ⟨b, 6, none⟩ = some (.bool false)) (f4 : w.frozen? ⟨b, 6, none⟩ = false) (c5 : w.cell? ⟨b, 7, none⟩ = some (.bool false)) (f5 : w.frozen? ⟨b, 7, none⟩ = false) (c6 : w.cell? ⟨b, 8, none⟩ = some (.bool false)) (f6 : w.frozen? ⟨b, 8, none⟩ = false) (c7 : w.cell? ⟨b, 9, none⟩ = some (.bool false)) (f7 : w.frozen? ⟨b, 9, none⟩ = false) (c8 : w.cell? ⟨b, 10, none⟩ = some (.bool false)) (f8 : w.frozen? ⟨b, 10, none⟩ = false) :
    Calls Tryz.prog 32 #[.pointer (some ⟨b, 0, none⟩), (.iface 112 (.pointer (some ⟨0, 86, none⟩)))] w fun e w' => e = .returned (.tuple #[]) ∧ w' = (((((((((((w).setCell ⟨b, 2, none⟩ ((.iface 112 (.pointer (some ⟨0, 86, none⟩))))).setCell ⟨b, 3, none⟩ (.int .u64 21)).setCell ⟨b, 4, none⟩ (.pointer none)).setCell ⟨b, 5, none⟩ (.pointer none)).setCell ⟨b, 6, none⟩ (.bool false)).setCell ⟨b, 7, none⟩ (.bool false)).setCell ⟨b, 8, none⟩ (.bool false)).setCell ⟨b, 9, none⟩ (.bool false)).setCell ⟨b, 10, none⟩ (.bool false)).alloc (.cells #[(.iface 112 (.pointer (some ⟨0, 86, none⟩))), .int .u64 21, .pointer none, .pointer none, .bool false, .bool false, .bool false, .bool false, .bool false] 50)).alloc (.cells #[(.iface 112 (.pointer (some ⟨0, 86, none⟩))), .int .u64 21, .pointer none, .pointer none, .bool false, .bool false, .bool false, .bool false, .bool false] 50) := by
  go_enter Tryz.func32, Tryz.ntmps32
  go_wp2_with (go_at_call 35; (with_reducible refine (fromType_ms _).mono ?_); rintro e w1 ⟨rfl, rfl⟩)
  go_end0
  exact ⟨rfl, rfl⟩

theorem setType_ms_m (T : Nat → Nat → Prop) (b : Nat) (w : World) (hT : ∀ o, 2 ≤ o → o < 11 → T b o) (hb : b < w.heap.size) (c0 : w.cell? ⟨b, 2, none⟩ = some (.nilIface)) (f0 : w.frozen? ⟨b, 2, none⟩ = false) (c1 : w.cell? ⟨b, 3, none⟩ = some (.int .u64 0)) (f1 : w.frozen? ⟨b, 3, none⟩ = false) (c2 : w.cell? ⟨b, 4, none⟩ = some (.pointer none)) (f2 : w.frozen? ⟨b, 4, none⟩ = false) (c3 : w.cell? ⟨b, 5, none⟩ = some (.pointer none)) (f3 : w.frozen? ⟨b, 5, none⟩ = false) (c4 : w.cell? ⟨b, 6, none⟩ = some (.bool false)) (f4 : w.frozen? ⟨b, 6, none⟩ = false) (c5 : w.cell? ⟨b, 7, none⟩ = some (.bool false)) (f5 : w.frozen? ⟨b, 7, none⟩ = false) (c6 : w.cell? ⟨b, 8, none⟩ = some (.bool false)) (f6 : w.frozen? ⟨b, 8, none⟩ = false) (c7 : w.cell? ⟨b, 9, none⟩ = some (.bool false)) (f7 : w.frozen? ⟨b, 9, none⟩ = false) (c8 : w.cell? ⟨b, 10, none⟩ = some (.bool false)) (f8 : w.frozen? ⟨b, 10, none⟩ = false) :
    Calls Tryz.prog 32 #[.pointer (some ⟨b, 0, none⟩), (.iface 112 (.pointer (some ⟨0, 86, none⟩)))] w fun e w' => e = .returned (.tuple #[]) ∧ Mod T w w' :=
  (setType_ms b w hb c0 f0 c1 f1 c2 f2 c3 f3 c4 f4 c5 f5 c6 f6 c7 f7 c8 f8).mono fun _ _ ⟨he, hw⟩ => ⟨he, hw ▸ (((((((((((Mod.refl T w).setCell (Or.inr (hT _ (by omega) (by omega))) _).setCell (Or.inr (hT _ (by omega) (by omega))) _).setCell (Or.inr (hT _ (by omega) (by omega))) _).setCell (Or.inr (hT _ (by omega) (by omega))) _).setCell (Or.inr (hT _ (by omega) (by omega))) _).setCell (Or.inr (hT _ (by omega) (by omega))) _).setCell (Or.inr (hT _ (by omega) (by omega))) _).setCell (Or.inr (hT _ (by omega) (by omega))) _).setCell (Or.inr (hT _ (by omega) (by omega))) _).alloc _ _).alloc _ _⟩

theorem typeOf_ms (w : World) (q : Option Nat) :
    (callFunc 33 #[.iface 86 (.map q)]).run Tryz.prog w = .ok (.value (.iface 112 (.pointer (some ⟨0, 86, none⟩)))) w := typeOf_call _ _ w

end Go.Proofs.YthhijnemlhjpgaaGreat

/-
  What is proved here: patchCopyType on binary nodes, by a contract: the root cell holds the new node, the new node's nature and location are written, nothing else has turned.
-/
import Derived.Test.YthhijnemlhjpgaaGreatTl
import Derived.Test.YthhijnemlhjpgaaGreatMd
namespace Go.Proofs.YthhijnemlhjpgaaGreat
open Go.ChangeShapes Go.WideShapes Go.ChangeAt Go.RowKit Go.Extern
set_option linter.unusedVariables false

set_option maxRecDepth 100000 in
theorem location_calls (b : Nat) (w : World) (hb : b < w.heap.size) (b0 : w.cell? ⟨b, 0, none⟩ = some (.int .i64 0)) (b1 : w.cell? ⟨b, 1, none⟩ = some (.int .i64 0)) :
    Calls Tryz.prog 84 #[.pointer (some ⟨b, 0, none⟩)] w fun e w' => e = .returned (.agg #[.int .i64 0, .int .i64 0]) ∧ w' = w.alloc (.cells #[.int .i64 0, .int .i64 0] 43) := by
  go_enter Tryz.func84, Tryz.ntmps84
  go_wp2
  go_returns
  exact ⟨rfl, rfl⟩

set_option maxRecDepth 100000 in
theorem setLocation_calls (b : Nat) (w : World) (hb : b < w.heap.size) (b0 : w.cell? ⟨b, 0, none⟩ = some (.int .i64 0)) (b1 : w.cell? ⟨b, 1, none⟩ = some (.int .i64 0)) (g0 : w.frozen? ⟨b, 0, none⟩ = false) (g1 : w.frozen? ⟨b, 1, none⟩ = false) :
    Calls Tryz.prog 85 #[.pointer (some ⟨b, 0, none⟩), .agg #[.int .i64 0, .int .i64 0]] w fun e w' => e = .returned (.tuple #[]) ∧ w' = ((w.setCell ⟨b, 0, none⟩ (.int .i64 0)).setCell ⟨b, 1, none⟩ (.int .i64 0)).alloc (.cells #[.int .i64 0, .int .i64 0] 43) := by
  go_enter Tryz.func85, Tryz.ntmps85
  go_wp2
  go_end0
  exact ⟨rfl, rfl⟩

theorem setLocation_m (T : Nat → Nat → Prop) (b : Nat) (w : World) (hT : ∀ o, o < 2 → T b o) (hb : b < w.heap.size) (b0 : w.cell? ⟨b, 0, none⟩ = some (.int .i64 0)) (b1 : w.cell? ⟨b, 1, none⟩ = some (.int .i64 0)) (g0 : w.frozen? ⟨b, 0, none⟩ = false) (g1 : w.frozen? ⟨b, 1, none⟩ = false) :
    Calls Tryz.prog 85 #[.pointer (some ⟨b, 0, none⟩), .agg #[.int .i64 0, .int .i64 0]] w fun e w' => e = .returned (.tuple #[]) ∧ Mod T w w' :=
  (setLocation_calls b w hb b0 b1 g0 g1).mono fun _ _ ⟨he, hw⟩ => ⟨he, hw ▸ (((Mod.refl T w).setCell (Or.inr (hT _ (by omega))) _).setCell (Or.inr (hT _ (by omega))) _).alloc _ _⟩

theorem location_m (T : Nat → Nat → Prop) (b : Nat) (w : World) (hb : b < w.heap.size) (b0 : w.cell? ⟨b, 0, none⟩ = some (.int .i64 0)) (b1 : w.cell? ⟨b, 1, none⟩ = some (.int .i64 0)) :
    Calls Tryz.prog 84 #[.pointer (some ⟨b, 0, none⟩)] w fun e w' => e = .returned (.agg #[.int .i64 0, .int .i64 0]) ∧ Mod T w w' :=
  (location_calls b w hb b0 b1).mono fun _ _ ⟨he, hw⟩ => ⟨he, hw ▸ (Mod.refl T w).alloc _ _⟩

theorem setType_any_m (T : Nat → Nat → Prop) (b : Nat) (w : World) (hT : ∀ o, 2 ≤ o → o < 11 → T b o) (hb : b < w.heap.size) (c0 : w.cell? ⟨b, 2, none⟩ = some (.nilIface)) (f0 : w.frozen? ⟨b, 2, none⟩ = false) (c1 : w.cell? ⟨b, 3, none⟩ = some (.int .u64 0)) (f1 : w.frozen? ⟨b, 3, none⟩ = false) (c2 : w.cell? ⟨b, 4, none⟩ = some (.pointer none)) (f2 : w.frozen? ⟨b, 4, none⟩ = false) (c3 : w.cell? ⟨b, 5, none⟩ = some (.pointer none)) (f3 : w.frozen? ⟨b, 5, none⟩ = false) (c4 : w.cell? ⟨b, 6, none⟩ = some (.bool false)) (f4 : w.frozen? ⟨b, 6, none⟩ = false) (c5 : w.cell? ⟨b, 7, none⟩ = some (.bool false)) (f5 : w.frozen? ⟨b, 7, none⟩ = false) (c6 : w.cell? ⟨b, 8, none⟩ = some (.bool false)) (f6 : w.frozen? ⟨b, 8, none⟩ = false) (c7 : w.cell? ⟨b, 9, none⟩ = some (.bool false)) (f7 : w.frozen? ⟨b, 9, none⟩ = false) (c8 : w.cell? ⟨b, 10, none⟩ = some (.bool false)) (f8 : w.frozen? ⟨b, 10, none⟩ = false) :
    Calls Tryz.prog 32 #[.pointer (some ⟨b, 0, none⟩), (.iface 112 (.pointer (some ⟨0, 20, none⟩)))] w fun e w' => e = .returned (.tuple #[]) ∧ Mod T w w' :=
  (setType_any b w hb c0 f0 c1 f1 c2 f2 c3 f3 c4 f4 c5 f5 c6 f6 c7 f7 c8 f8).mono fun _ _ ⟨he, hw⟩ => ⟨he, hw ▸ (((((((((((Mod.refl T w).setCell (Or.inr (hT _ (by omega) (by omega))) _).setCell (Or.inr (hT _ (by omega) (by omega))) _).setCell (Or.inr (hT _ (by omega) (by omega))) _).setCell (Or.inr (hT _ (by omega) (by omega))) _).setCell (Or.inr (hT _ (by omega) (by omega))) _).setCell (Or.inr (hT _ (by omega) (by omega))) _).setCell (Or.inr (hT _ (by omega) (by omega))) _).setCell (Or.inr (hT _ (by omega) (by omega))) _).setCell (Or.inr (hT _ (by omega) (by omega))) _).alloc _ _).alloc _ _⟩

def TB (b : Nat) (k o : Nat) : Prop := k = b ∧ 2 ≤ o ∧ o < 11
def TL (b : Nat) (k o : Nat) : Prop := k = b ∧ o < 2
def PT (r b : Nat) (k o : Nat) : Prop := (k = r ∧ o = 0) ∨ (k = b ∧ o < 11)

set_option maxRecDepth 100000 in
set_option maxHeartbeats 1000000 in
theorem patch_bin (r o b : Nat) (w : World) (hr : r < w.heap.size) (ho : o < w.heap.size) (hb : b < w.heap.size) (hrb : ¬ r = b) (hbr : ¬ b = r) (hro : ¬ r = o) (hor : ¬ o = r) (hob : ¬ o = b) (hbo : ¬ b = o)
    (cr : w.cell? ⟨r, 0, none⟩ = some (.iface 63 (.pointer (some ⟨o, 0, none⟩)))) (fr : w.frozen? ⟨r, 0, none⟩ = false)
    (o0 : w.cell? ⟨o, 0, none⟩ = some (.int .i64 0)) (o1 : w.cell? ⟨o, 1, none⟩ = some (.int .i64 0)) (o2 : w.cell? ⟨o, 2, none⟩ = some .nilIface)
    (b0 : w.cell? ⟨b, 0, none⟩ = some (.int .i64 0)) (b1 : w.cell? ⟨b, 1, none⟩ = some (.int .i64 0)) (g0 : w.frozen? ⟨b, 0, none⟩ = false) (g1 : w.frozen? ⟨b, 1, none⟩ = false)
    (c0 : w.cell? ⟨b, 2, none⟩ = some (.nilIface)) (f0 : w.frozen? ⟨b, 2, none⟩ = false) (c1 : w.cell? ⟨b, 3, none⟩ = some (.int .u64 0)) (f1 : w.frozen? ⟨b, 3, none⟩ = false) (c2 : w.cell? ⟨b, 4, none⟩ = some (.pointer none)) (f2 : w.frozen? ⟨b, 4, none⟩ = false) (c3 : w.cell? ⟨b, 5, none⟩ = some (.pointer none)) (f3 : w.frozen? ⟨b, 5, none⟩ = false) (c4 : w.cell? ⟨b, 6, none⟩ = some (.bool false)) (f4 : w.frozen? ⟨b, 6, none⟩ = false) (c5 : w.cell? ⟨b, 7, none⟩ = some (.bool false)) (f5 : w.frozen? ⟨b, 7, none⟩ = false) (c6 : w.cell? ⟨b, 8, none⟩ = some (.bool false)) (f6 : w.frozen? ⟨b, 8, none⟩ = false) (c7 : w.cell? ⟨b, 9, none⟩ = some (.bool false)) (f7 : w.frozen? ⟨b, 9, none⟩ = false) (c8 : w.cell? ⟨b, 10, none⟩ = some (.bool false)) (f8 : w.frozen? ⟨b, 10, none⟩ = false) :
    Calls Tryz.prog 34 #[.pointer (some ⟨r, 0, none⟩), .iface 63 (.pointer (some ⟨b, 0, none⟩))] w fun e w' => e = .returned (.tuple #[]) ∧ Mod (PT r b) w w' ∧ w'.cell? ⟨r, 0, none⟩ = some (.iface 63 (.pointer (some ⟨b, 0, none⟩))) := by
  have n1 : ∀ (a : Addr) (w : World), (nilAhead 861 63 (.pointer (some a)) "SetType").run Tryz.prog w = .ok (some false) w := fun v w => by kernel_rfl
  have m1 : ∀ (b : Nat) (w : World), (Go.method 861 63 (.pointer (some ⟨b, 0, none⟩)) "SetType").run Tryz.prog w = .ok (32, .pointer (some ⟨b, 0, none⟩)) w := fun b w => by kernel_rfl
  have n2 : ∀ (a : Addr) (w : World), (nilAhead 861 63 (.pointer (some a)) "SetLocation").run Tryz.prog w = .ok (some false) w := fun v w => by kernel_rfl
  have m2 : ∀ (b : Nat) (w : World), (Go.method 861 63 (.pointer (some ⟨b, 0, none⟩)) "SetLocation").run Tryz.prog w = .ok (85, .pointer (some ⟨b, 0, none⟩)) w := fun b w => by kernel_rfl
  have n3 : ∀ (a : Addr) (w : World), (nilAhead 861 63 (.pointer (some a)) "Location").run Tryz.prog w = .ok (some false) w := fun v w => by kernel_rfl
  have m3 : ∀ (b : Nat) (w : World), (Go.method 861 63 (.pointer (some ⟨b, 0, none⟩)) "Location").run Tryz.prog w = .ok (84, .pointer (some ⟨b, 0, none⟩)) w := fun b w => by kernel_rfl
  go_enter Tryz.func34, Tryz.ntmps34
  go_wp2_with (first | (go_at_call 20; go_call (type_none _ _) as e w1 ⟨rfl, rfl⟩))
  go_call (setType_any_m (TB b) b _ (fun o h1 h2 => ⟨rfl, h1, h2⟩)) as e w1 ⟨rfl, hm1⟩
  have hm : Mod (TB b) w w1 := ((Mod.refl _ w).alloc _ _).trans hm1
  clear hm1
  have hs1 := hm.size
  have Hr : r < w1.heap.size := by omega
  have Ho : o < w1.heap.size := by omega
  have Hb : b < w1.heap.size := by omega
  have k1 := hm.get hr (o := 0) (by unfold TB; omega) cr
  have k2 := hm.get ho (o := 0) (by unfold TB; omega) o0
  have k3 := hm.get ho (o := 1) (by unfold TB; omega) o1
  have k4 := hm.get hb (o := 0) (by unfold TB; omega) b0
  have k5 := hm.get hb (o := 1) (by unfold TB; omega) b1
  have k6 := (hm.frozen ⟨b, 0, none⟩).trans g0
  have k7 := (hm.frozen ⟨b, 1, none⟩).trans g1
  have k8 := (hm.frozen ⟨r, 0, none⟩).trans fr
  clear cr fr o0 o1 o2 b0 b1 g0 g1 c0 f0 c1 f1 c2 f2 c3 f3 c4 f4 c5 f5 c6 f6 c7 f7 c8 f8
  go_wp2_with go_in
  go_region_with (first | (go_at_call 84; go_call (location_calls _ _) as e wl ⟨rfl, rfl⟩) | (go_at_call 85; go_call (setLocation_calls _ _) as e wl ⟨rfl, rfl⟩))
  all_goals go_wp2
  all_goals go_end0
  all_goals refine ⟨rfl, ((((((hm.mono (fun k o _ h => Or.inr ⟨h.1, h.2.2⟩)).setCell (Or.inr (Or.inr ⟨rfl, by omega⟩)) _).setCell (Or.inr (Or.inr ⟨rfl, by omega⟩)) _).setCell (Or.inr (Or.inl ⟨rfl, rfl⟩)) _).alloc _ _).alloc _ _).drew, ?_⟩
  all_goals go_cell

end Go.Proofs.YthhijnemlhjpgaaGreat

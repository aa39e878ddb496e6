/-
  What is proved here: zzNorm is the remainder that is never negative; zzPick gives the type of each selector; Equal between two picked types (or against no type) is equality of the selectors, or 'any' on one side; the world only grows.
-/
import Derived.Test.YtnpmgandmmlilaaGreatFmtEq
namespace Go.Proofs.YtnpmgandmmlilaaGreatFmt
open Go.ChangeShapes Go.WideShapes Go.ChangeAt Go.RowKit Go.Extern
set_option linter.unusedVariables false

def tyOf (k : Nat) : TypeId := [3, 29, 9, 4, 27, 46, 60, 5, 64, 65].getD k 0
def nmOf (k : Nat) : ByteArray := ([⟨#[105, 110, 116]⟩, ⟨#[105, 110, 116, 56]⟩, ⟨#[115, 116, 114, 105, 110, 103]⟩, ⟨#[98, 111, 111, 108]⟩, ⟨#[102, 108, 111, 97, 116, 54, 52]⟩, ⟨#[91, 93, 105, 110, 116]⟩, ⟨#[109, 97, 112, 91, 115, 116, 114, 105, 110, 103, 93, 105, 110, 116]⟩, ⟨#[117, 105, 110, 116, 56]⟩, ⟨#[42, 105, 110, 116]⟩, ⟨#[91, 50, 93, 98, 111, 111, 108]⟩] : List ByteArray).getD k ByteArray.empty
/-- the payload of a selector's concrete type. -/
def rtV (k : Nat) : Value := .agg #[.iface 77 (.pointer (some ⟨1, tyOf k, none⟩))]
/-- the types.Type of a selector. -/
def pickV (k : Nat) : Value := if k < 10 then .iface 76 (rtV k) else if k = 10 then .iface 69 (.agg #[]) else .iface 71 (.agg #[])
/-- what a look-up gives: the type of a selector, or the nil interface. -/
def optV : Option Nat → Value
  | some k => pickV k
  | none => .nilIface
/-- Equal of a picked type against a picked type or none. -/
def eqS (a : Nat) (o : Option Nat) : Bool := a == 10 || match o with
  | some b => b == 10 || a == b
  | none => false

theorem pickV_rt {k : Nat} (h : k < 10) : pickV k = .iface 76 (rtV k) := by simp [pickV, h]
theorem pickV_any : pickV 10 = .iface 69 (.agg #[]) := rfl
theorem pickV_nil : pickV 11 = .iface 71 (.agg #[]) := rfl

theorem nm_0 (w : World) : (callFunc 146 #[.pointer (some ⟨1, tyOf 0, none⟩)]).run Tryz.prog w = .ok (.value (.string (nmOf 0))) w := by kernel_rfl
theorem nm_1 (w : World) : (callFunc 146 #[.pointer (some ⟨1, tyOf 1, none⟩)]).run Tryz.prog w = .ok (.value (.string (nmOf 1))) w := by kernel_rfl
theorem nm_2 (w : World) : (callFunc 146 #[.pointer (some ⟨1, tyOf 2, none⟩)]).run Tryz.prog w = .ok (.value (.string (nmOf 2))) w := by kernel_rfl
theorem nm_3 (w : World) : (callFunc 146 #[.pointer (some ⟨1, tyOf 3, none⟩)]).run Tryz.prog w = .ok (.value (.string (nmOf 3))) w := by kernel_rfl
theorem nm_4 (w : World) : (callFunc 146 #[.pointer (some ⟨1, tyOf 4, none⟩)]).run Tryz.prog w = .ok (.value (.string (nmOf 4))) w := by kernel_rfl
theorem nm_5 (w : World) : (callFunc 146 #[.pointer (some ⟨1, tyOf 5, none⟩)]).run Tryz.prog w = .ok (.value (.string (nmOf 5))) w := by kernel_rfl
theorem nm_6 (w : World) : (callFunc 146 #[.pointer (some ⟨1, tyOf 6, none⟩)]).run Tryz.prog w = .ok (.value (.string (nmOf 6))) w := by kernel_rfl
theorem nm_7 (w : World) : (callFunc 146 #[.pointer (some ⟨1, tyOf 7, none⟩)]).run Tryz.prog w = .ok (.value (.string (nmOf 7))) w := by kernel_rfl
theorem nm_8 (w : World) : (callFunc 146 #[.pointer (some ⟨1, tyOf 8, none⟩)]).run Tryz.prog w = .ok (.value (.string (nmOf 8))) w := by kernel_rfl
theorem nm_9 (w : World) : (callFunc 146 #[.pointer (some ⟨1, tyOf 9, none⟩)]).run Tryz.prog w = .ok (.value (.string (nmOf 9))) w := by kernel_rfl
theorem nm_all {k : Nat} (h : k < 10) (w : World) : (callFunc 146 #[.pointer (some ⟨1, tyOf k, none⟩)]).run Tryz.prog w = .ok (.value (.string (nmOf k))) w := by
  rcases (show k = 0 ∨ k = 1 ∨ k = 2 ∨ k = 3 ∨ k = 4 ∨ k = 5 ∨ k = 6 ∨ k = 7 ∨ k = 8 ∨ k = 9 by omega) with rfl | rfl | rfl | rfl | rfl | rfl | rfl | rfl | rfl | rfl
  · exact nm_0 w
  · exact nm_1 w
  · exact nm_2 w
  · exact nm_3 w
  · exact nm_4 w
  · exact nm_5 w
  · exact nm_6 w
  · exact nm_7 w
  · exact nm_8 w
  · exact nm_9 w
theorem nm_inj : ∀ a : Fin 10, ∀ b : Fin 10, ((nmOf a.1).toList == (nmOf b.1).toList) = (a.1 == b.1) := by decide +kernel

/-- Equal of a concrete type. -/
theorem p_rt (a : Nat) (o : Option Nat) (ha : a < 10) (ho : ∀ b, o = some b → b < 12) (w : World) :
    Calls Tryz.prog 96 #[rtV a, optV o] w fun e w' => e = .returned (.bool (eqS a o)) ∧ Below w.heap.size w w' := by
  have h10 : (a == 10) = false := by simp; omega
  rcases o with _ | b
  · have e1 : eqS a none = false := by simp [eqS, h10]
    rw [e1]
    exact e_rt_none _ w
  · have hb := ho b rfl
    rcases (show b < 10 ∨ b = 10 ∨ b = 11 by omega) with hb | rfl | rfl
    · have e1 : eqS a (some b) = (a == b) := by
        have : (b == 10) = false := by simp; omega
        simp [eqS, h10, this]
      rw [e1]
      show Calls Tryz.prog 96 #[rtV a, pickV b] w _
      rw [pickV_rt hb]
      exact rt_rt _ _ _ _ _ (nm_all ha) (nm_all hb) (nm_inj ⟨a, ha⟩ ⟨b, hb⟩) w
    · have e1 : eqS a (some 10) = true := by simp [eqS]
      rw [e1]
      exact e_rt_any _ w
    · have e1 : eqS a (some 11) = false := by
        have : (a == 11) = false := by simp; omega
        simp [eqS, h10, this]
      rw [e1]
      exact e_rt_nil _ w

/-- Equal of 'any'. -/
theorem p_any (o : Option Nat) (w : World) : Calls Tryz.prog 43 #[.agg #[], optV o] w fun e w' => e = .returned (.bool (eqS 10 o)) ∧ Below w.heap.size w w' := by
  have e1 : eqS 10 o = true := by simp [eqS]
  rw [e1]
  exact e_any _ w

/-- Equal of nil. -/
theorem p_nil (o : Option Nat) (ho : ∀ b, o = some b → b < 12) (w : World) : Calls Tryz.prog 42 #[.agg #[], optV o] w fun e w' => e = .returned (.bool (eqS 11 o)) ∧ Below w.heap.size w w' := by
  rcases o with _ | b
  · exact e_nil_none w
  · have hb := ho b rfl
    rcases (show b < 10 ∨ b = 10 ∨ b = 11 by omega) with hb | rfl | rfl
    · have e1 : eqS 11 (some b) = false := by
        have h1 : (b == 10) = false := by simp; omega
        have h2 : (11 == b) = false := by simp; omega
        simp [eqS, h1, h2]
      rw [e1]
      show Calls Tryz.prog 42 #[.agg #[], pickV b] w _
      rw [pickV_rt hb]
      exact e_nil_rt _ w
    · exact e_nil_any w
    · exact e_nil_nil w

/-! ### zzNorm, zzPick -/
theorem norm_any (s n : Int) (h1 : -9223372036854775808 ≤ s) (h2 : s ≤ 9223372036854775807) (hn : n = 10 ∨ n = 12 ∨ n = 14) (w : World) :
    Calls Tryz.prog 8 #[.int .i64 s, .int .i64 n] w fun e w' => e = .returned (.int .i64 (s % n)) ∧ w = w' := by
  have hs : 0 ≤ s → s.tmod n = s % n := fun h => Int.tmod_eq_emod_of_nonneg h
  have hneg : s < 0 → s.tmod n = -((-s) % n) := fun h => by
    have e1 : (-s).tmod n = (-s) % n := Int.tmod_eq_emod_of_nonneg (by omega)
    rw [Int.neg_tmod] at e1
    omega
  by_cases h : s.tmod n < 0
  · have e1 : s % n = s.tmod n + n := by
      rcases (show s < 0 ∨ 0 ≤ s by omega) with c | c
      · have := hneg c
        rcases hn with rfl | rfl | rfl <;> omega
      · have := hs c
        rcases hn with rfl | rfl | rfl <;> omega
    have b1 : -100 ≤ s.tmod n := by
      rcases (show s < 0 ∨ 0 ≤ s by omega) with c | c
      · have := hneg c
        rcases hn with rfl | rfl | rfl <;> omega
      · have := hs c
        rcases hn with rfl | rfl | rfl <;> omega
    have n0 : ¬ n = 0 := by omega
    have nb : n ≤ 14 := by omega
    have np : 0 < n := by omega
    rw [e1]
    clear hs hneg e1 hn
    go_enter Tryz.func8, Tryz.ntmps8
    go_wp2
    go_ret
    exact ⟨rfl, rfl⟩
  · have e1 : s % n = s.tmod n := by
      rcases (show s < 0 ∨ 0 ≤ s by omega) with c | c
      · have := hneg c
        rcases hn with rfl | rfl | rfl <;> omega
      · have := hs c
        rcases hn with rfl | rfl | rfl <;> omega
    have n0 : ¬ n = 0 := by omega
    rw [e1]
    clear hs hneg e1 hn
    go_enter Tryz.func8, Tryz.ntmps8
    go_wp2
    go_ret
    exact ⟨rfl, rfl⟩

theorem norm_nat (s : Int) (n : Nat) (h1 : -9223372036854775808 ≤ s) (h2 : s ≤ 9223372036854775807) (hn : n = 10 ∨ n = 12 ∨ n = 14) (w : World) :
    Calls Tryz.prog 8 #[.int .i64 s, .int .i64 n] w fun e w' => e = .returned (.int .i64 ((s % (n : Int)).toNat : Int)) ∧ w = w' := by
  have e1 : ((s % (n : Int)).toNat : Int) = s % (n : Int) := Int.toNat_of_nonneg (Int.emod_nonneg _ (by omega))
  rw [e1]
  exact norm_any s n h1 h2 (by omega) w

set_option maxRecDepth 100000 in
theorem pick_0 (w : World) : Calls Tryz.prog 9 #[.int .i64 0] w fun e w' => e = .returned (.iface 76 (rtV 0)) ∧ Below w.heap.size w w' := by
  go_enter Tryz.func9, Tryz.ntmps9
  go_wp2_with (go_at_call 18; (with_reducible refine (typeOf_any _ _ _).mono ?_); rintro e w1 ⟨rfl, rfl⟩)
  go_ret
  exact ⟨rfl, by go_grown⟩

set_option maxRecDepth 100000 in
theorem pick_1 (w : World) : Calls Tryz.prog 9 #[.int .i64 1] w fun e w' => e = .returned (.iface 76 (rtV 1)) ∧ Below w.heap.size w w' := by
  go_enter Tryz.func9, Tryz.ntmps9
  go_wp2_with (go_at_call 18; (with_reducible refine (typeOf_any _ _ _).mono ?_); rintro e w1 ⟨rfl, rfl⟩)
  go_ret
  exact ⟨rfl, by go_grown⟩

set_option maxRecDepth 100000 in
theorem pick_2 (w : World) : Calls Tryz.prog 9 #[.int .i64 2] w fun e w' => e = .returned (.iface 76 (rtV 2)) ∧ Below w.heap.size w w' := by
  go_enter Tryz.func9, Tryz.ntmps9
  go_wp2_with (go_at_call 18; (with_reducible refine (typeOf_any _ _ _).mono ?_); rintro e w1 ⟨rfl, rfl⟩)
  go_ret
  exact ⟨rfl, by go_grown⟩

set_option maxRecDepth 100000 in
theorem pick_3 (w : World) : Calls Tryz.prog 9 #[.int .i64 3] w fun e w' => e = .returned (.iface 76 (rtV 3)) ∧ Below w.heap.size w w' := by
  go_enter Tryz.func9, Tryz.ntmps9
  go_wp2_with (go_at_call 18; (with_reducible refine (typeOf_any _ _ _).mono ?_); rintro e w1 ⟨rfl, rfl⟩)
  go_ret
  exact ⟨rfl, by go_grown⟩

set_option maxRecDepth 100000 in
theorem pick_4 (w : World) : Calls Tryz.prog 9 #[.int .i64 4] w fun e w' => e = .returned (.iface 76 (rtV 4)) ∧ Below w.heap.size w w' := by
  go_enter Tryz.func9, Tryz.ntmps9
  go_wp2_with (go_at_call 18; (with_reducible refine (typeOf_any _ _ _).mono ?_); rintro e w1 ⟨rfl, rfl⟩)
  go_ret
  exact ⟨rfl, by go_grown⟩

set_option maxRecDepth 100000 in
theorem pick_5 (w : World) : Calls Tryz.prog 9 #[.int .i64 5] w fun e w' => e = .returned (.iface 76 (rtV 5)) ∧ Below w.heap.size w w' := by
  go_enter Tryz.func9, Tryz.ntmps9
  go_wp2_with (go_at_call 18; (with_reducible refine (typeOf_any _ _ _).mono ?_); rintro e w1 ⟨rfl, rfl⟩)
  go_ret
  exact ⟨rfl, by go_grown⟩

set_option maxRecDepth 100000 in
theorem pick_6 (w : World) : Calls Tryz.prog 9 #[.int .i64 6] w fun e w' => e = .returned (.iface 76 (rtV 6)) ∧ Below w.heap.size w w' := by
  have hmm := @run_makeMap Tryz.prog
  go_enter Tryz.func9, Tryz.ntmps9
  go_wp2_with (go_at_call 18; (with_reducible refine (typeOf_any _ _ _).mono ?_); rintro e w1 ⟨rfl, rfl⟩)
  go_ret
  exact ⟨rfl, (Below.refl _ _).alloc (Nat.le_refl _) _⟩

set_option maxRecDepth 100000 in
theorem pick_7 (w : World) : Calls Tryz.prog 9 #[.int .i64 7] w fun e w' => e = .returned (.iface 76 (rtV 7)) ∧ Below w.heap.size w w' := by
  go_enter Tryz.func9, Tryz.ntmps9
  go_wp2_with (go_at_call 18; (with_reducible refine (typeOf_any _ _ _).mono ?_); rintro e w1 ⟨rfl, rfl⟩)
  go_ret
  exact ⟨rfl, by go_grown⟩

set_option maxRecDepth 100000 in
theorem pick_8 (w : World) : Calls Tryz.prog 9 #[.int .i64 8] w fun e w' => e = .returned (.iface 76 (rtV 8)) ∧ Below w.heap.size w w' := by
  go_enter Tryz.func9, Tryz.ntmps9
  go_wp2_with (go_at_call 18; (with_reducible refine (typeOf_any _ _ _).mono ?_); rintro e w1 ⟨rfl, rfl⟩)
  go_ret
  exact ⟨rfl, by go_grown⟩

set_option maxRecDepth 100000 in
theorem pick_9 (w : World) : Calls Tryz.prog 9 #[.int .i64 9] w fun e w' => e = .returned (.iface 76 (rtV 9)) ∧ Below w.heap.size w w' := by
  go_enter Tryz.func9, Tryz.ntmps9
  go_wp2_with (go_at_call 18; (with_reducible refine (typeOf_any _ _ _).mono ?_); rintro e w1 ⟨rfl, rfl⟩)
  go_ret
  exact ⟨rfl, by go_grown⟩

theorem zzany (w : World) : Calls Tryz.prog 17 #[] w fun e w' => e = .returned (.iface 69 (.agg #[])) ∧ w = w' := by
  go_enter Tryz.func17, Tryz.ntmps17
  go_wp2
  go_ret
  exact ⟨rfl, rfl⟩

set_option maxRecDepth 100000 in
theorem pick_10 (w : World) : Calls Tryz.prog 9 #[.int .i64 10] w fun e w' => e = .returned (.iface 69 (.agg #[])) ∧ Below w.heap.size w w' := by
  go_enter Tryz.func9, Tryz.ntmps9
  go_wp2_with (go_at_call 17; (with_reducible refine (zzany _).mono ?_); rintro e w1 ⟨rfl, rfl⟩)
  go_ret
  exact ⟨rfl, by go_grown⟩

set_option maxRecDepth 100000 in
theorem pick_11 (w : World) : Calls Tryz.prog 9 #[.int .i64 11] w fun e w' => e = .returned (.iface 71 (.agg #[])) ∧ Below w.heap.size w w' := by
  go_enter Tryz.func9, Tryz.ntmps9
  go_wp2_with (go_at_call 18; (with_reducible refine (typeOf_nil _).mono ?_); rintro e w1 ⟨rfl, rfl⟩)
  go_ret
  exact ⟨rfl, by go_grown⟩

theorem pick_rt (k : Nat) (h : k < 10) (w : World) : Calls Tryz.prog 9 #[.int .i64 (k : Int)] w fun e w' => e = .returned (.iface 76 (rtV k)) ∧ Below w.heap.size w w' := by
  rcases (show k = 0 ∨ k = 1 ∨ k = 2 ∨ k = 3 ∨ k = 4 ∨ k = 5 ∨ k = 6 ∨ k = 7 ∨ k = 8 ∨ k = 9 by omega) with rfl | rfl | rfl | rfl | rfl | rfl | rfl | rfl | rfl | rfl
  · exact pick_0 w
  · exact pick_1 w
  · exact pick_2 w
  · exact pick_3 w
  · exact pick_4 w
  · exact pick_5 w
  · exact pick_6 w
  · exact pick_7 w
  · exact pick_8 w
  · exact pick_9 w

theorem pick_any (k : Nat) (h : k < 12) (w : World) : Calls Tryz.prog 9 #[.int .i64 (k : Int)] w fun e w' => e = .returned (pickV k) ∧ Below w.heap.size w w' := by
  rcases (show k < 10 ∨ k = 10 ∨ k = 11 by omega) with h | rfl | rfl
  · rw [pickV_rt h]
    exact pick_rt k h w
  · exact pick_10 w
  · exact pick_11 w
end Go.Proofs.YtnpmgandmmlilaaGreatFmt

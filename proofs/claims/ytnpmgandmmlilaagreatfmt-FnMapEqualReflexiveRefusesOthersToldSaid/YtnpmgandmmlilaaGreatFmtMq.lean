/-
  What is proved here: Map.Equal of one map of picked types against another: it returns true exactly when 'EqM' holds of what they read as; it writes nothing that was there. Whatever order the range takes.
-/
import Derived.Test.YtnpmgandmmlilaaGreatFmtMe
namespace Go.Proofs.YtnpmgandmmlilaaGreatFmt
open Go.ChangeShapes Go.WideShapes Go.ChangeAt Go.RowKit Go.Extern
set_option linter.unusedVariables false
set_option linter.unusedSimpArgs false

def EqPost (s1 s2 : Nat) (f1 f2 : Lit → Option Nat) (w : World) (e : Ending) (w' : World) : Prop := ∃ r : Bool, (r = true ↔ EqM s1 s2 f1 f2) ∧ e = .returned (.bool r) ∧ Below w.heap.size w w'

/-- what is known of the keys that have come. -/
def Good (f1 f2 : Lit → Option Nat) (left : Lit → Bool) : Prop := ∀ x a, f1 x = some a → left x = false → eqS a (f2 x) = true

theorem good_start (D : Du) (f1 f2 : Lit → Option Nat) (r : Reads D f1) : Good f1 f2 (Maps.has D) := fun x a h hl => by
  rw [r.has, h] at hl; cases hl

theorem good_step {f1 f2 : Lit → Option Nat} {left : Lit → Bool} (h : Good f1 f2 left) (s : ByteArray) {c : Nat} (hc : f1 (keyL s) = some c) (he : eqS c (f2 (keyL s)) = true) : Good f1 f2 (fun z => left z && !z.sameKey (keyL s)) := fun x a hx hl => by
  by_cases e : x = keyL s
  · subst e
    rw [hc] at hx
    cases hx
    exact he
  · have : x.sameKey (keyL s) = false := Go.Maps.sameKey_ne e
    simp [this] at hl
    exact h x a hx hl

theorem good_end {s : Nat} {f1 f2 : Lit → Option Nat} {left : Lit → Bool} (h : Good f1 f2 left) (hl : ∀ x, left x = false) : EqM s s f1 f2 := ⟨rfl, fun x a hx => h x a hx (hl x)⟩

set_option maxRecDepth 100000 in
theorem map_ne (b1 n1 b2 n2 : Nat) (D1 D2 : Du) (f1 f2 : Lit → Option Nat) (w : World) (h1 : OwnSel w b1 n1 D1) (h2 : OwnSel w b2 n2 D2) (hne : ¬ Maps.size D1 = Maps.size D2) :
    Calls Tryz.prog 16 #[.map (some b1), .iface 41 (.map (some b2))] w (EqPost (Maps.size D1) (Maps.size D2) f1 f2 w) := by
  have q1 := q_map_any
  have q2 := as_map_map
  have l1 := fun ty => h1.len (t := 41) Tryz.underlying41 ty
  have l2 := fun ty => h2.len (t := 41) Tryz.underlying41 ty
  have HN := Lib.hid hne
  have t1 : ((Maps.size D1 : Int) != (Maps.size D2 : Int)) = true := by simp; omega
  clear hne
  go_enter Tryz.func16, Tryz.ntmps16
  go_wp2
  go_ret
  exact ⟨false, ⟨fun h => (by cases h), fun h => absurd h.1 HN.out⟩, rfl, Below.refl _ _⟩

set_option maxRecDepth 100000 in
set_option maxHeartbeats 1000000 in
theorem map_eq (b1 n1 b2 n2 : Nat) (D1 D2 : Du) (f1 f2 : Lit → Option Nat) (w : World) (h1 : OwnSel w b1 n1 D1) (h2 : OwnSel w b2 n2 D2) (r1 : Reads D1 f1) (r2 : Reads D2 f2) (he : Maps.size D1 = Maps.size D2) :
    Calls Tryz.prog 16 #[.map (some b1), .iface 41 (.map (some b2))] w (EqPost (Maps.size D1) (Maps.size D2) f1 f2 w) := by
  have q1 := q_map_any
  have q2 := as_map_map
  have l1 := fun ty => h1.len (t := 41) Tryz.underlying41 ty
  have l2 := fun ty => h2.len (t := 41) Tryz.underlying41 ty
  rw [← he] at l2 ⊢
  have m1 : ∀ (k : Nat) (w : World), (Go.method 805 76 (rtV k) "Equal").run Tryz.prog w = .ok (96, rtV k) w := fun k w => by kernel_rfl
  have HR1 := Lib.hid r1
  have HR2 := Lib.hid r2
  have HH2 := Lib.hid h2
  clear he r1 r2 h2
  go_enter Tryz.func16, Tryz.ntmps16
  go_wp2_with (first | (at_range; refine wpList_range_own _ rfl _ 41 rfl 9 38 keyed Tryz.underlying41 selElem b1 n1 D1 rfl h1 ?_; intro w0 hrg0 hg0 hs0) | go_in)
  go_frame
  go_loopw [7] (fun _ wr => ∃ (left : Lit → Bool) (cnt : Nat), wr.ranges Tryz.prog 9 selElem b1 w.heap.size n1 D1 left cnt ∧ Good f1 f2 left ∧ OwnSel wr b2 n2 D2 ∧ Below w.heap.size w wr) (fun _ wr => wr.rangeLeft b1 w.heap.size)
  case atStart => exact ⟨_, _, hrg0, good_start D1 f1 f2 HR1.out, HH2.out.kept hg0 (by simp), (Below.refl _ _).grown hg0 (Nat.le_refl _) (fun j hj => by cases hj)⟩
  case round =>
    obtain ⟨left, cnt, hrg, hgood, hown, hbel⟩ := hrel
    have HG := Lib.hid hgood
    have HW := Lib.hid hown
    have HB := Lib.hid hbel
    clear hgood hown hbel
    go_wp2_with (first | (at_next; refine wpList_next_sel _ rfl rfl _ rfl b1 w.heap.size n1 D1 f1 HR1.out left cnt rfl hrg ?_ ?_) | go_in)
    · intro hc0 hl0
      have HL := Lib.hid hl0
      clear hl0 hc0
      go_wp2
      go_ret
      exact ⟨true, ⟨fun _ => good_end HG.out HL.out, fun _ => rfl⟩, rfl, HB.out⟩
    · intro s c w1 cnt1 hs hc hf hrg1 hlt hg1 hs1 hen
      have hown1 := HW.out.kept hg1 (fun e => by have := Option.some.inj e; have := HW.out.lt; have := HH2.out.lt; omega)
      have hlk := look_opt hown1 HR2.out s hs
      have hbel1 := HB.out.grown hg1 HB.out.size (fun j hj => by cases hj; exact Nat.le_refl _)
      have ho : ∀ b, f2 (keyL s) = some b → b < 12 := fun b hb => HR2.out.lt hb
      have HF := Lib.hid hf
      have HRG := Lib.hid hrg1
      have HW1 := Lib.hid hown1
      have HB1 := Lib.hid hbel1
      have HLT := Lib.hid hlt
      have HRO := Lib.hid hrg
      clear hf hrg1 hown1 hbel1 hlt hrg hg1 hs1
      rcases (show c < 10 ∨ c = 10 ∨ c = 11 by omega) with h10 | rfl | rfl
      · rw [pickV_rt h10] at hen ⊢
        cases hq : eqS c (f2 (keyL s))
        · have HE := Lib.hid (show ∀ w : World, Calls Tryz.prog 96 #[rtV c, optV (f2 (keyL s))] w fun e w' => e = .returned (.bool false) ∧ Below w.heap.size w w' from fun w => by have h := p_rt c (f2 (keyL s)) h10 ho w; rw [hq] at h; exact h)
          have HQ := Lib.hid hq
          clear hq ho hc
          go_wp2_with (go_at_call 96; (with_reducible refine (HE.out _).mono ?_); rintro e w2 ⟨rfl, hg⟩)
          go_ret
          exact ⟨false, ⟨fun h => (by cases h), fun h => absurd (h.2 _ _ HF.out) (by rw [HQ.out]; decide)⟩, rfl, HB1.out.trans (hg.mono HB1.out.size)⟩
        · have HE := Lib.hid (show ∀ w : World, Calls Tryz.prog 96 #[rtV c, optV (f2 (keyL s))] w fun e w' => e = .returned (.bool true) ∧ Below w.heap.size w w' from fun w => by have h := p_rt c (f2 (keyL s)) h10 ho w; rw [hq] at h; exact h)
          have HQ := Lib.hid hq
          clear hq ho hc
          go_wp2_with (go_at_call 96; (with_reducible refine (HE.out _).mono ?_); rintro e w2 ⟨rfl, hg⟩)
          have hrg2 := HRG.out.kept (gb_of hg) (by simp) (by simp)
          go_roundw
          case rel => exact ⟨_, cnt1, hrg2, good_step HG.out s HF.out HQ.out, owns_below HW1.out hg, HB1.out.trans (hg.mono HB1.out.size)⟩
          case measure => rw [hrg2.left_eq, HRO.out.left_eq]; exact HLT.out
      · rw [pickV_any] at hen ⊢
        cases hq : eqS 10 (f2 (keyL s))
        · simp [eqS] at hq
        · have HE := Lib.hid (show ∀ w : World, Calls Tryz.prog 43 #[.agg #[], optV (f2 (keyL s))] w fun e w' => e = .returned (.bool true) ∧ Below w.heap.size w w' from fun w => by have h := p_any (f2 (keyL s)) w; rw [hq] at h; exact h)
          have HQ := Lib.hid hq
          clear hq ho hc
          go_wp2_with (go_at_call 43; (with_reducible refine (HE.out _).mono ?_); rintro e w2 ⟨rfl, hg⟩)
          have hrg2 := HRG.out.kept (gb_of hg) (by simp) (by simp)
          go_roundw
          case rel => exact ⟨_, cnt1, hrg2, good_step HG.out s HF.out HQ.out, owns_below HW1.out hg, HB1.out.trans (hg.mono HB1.out.size)⟩
          case measure => rw [hrg2.left_eq, HRO.out.left_eq]; exact HLT.out
      · rw [pickV_nil] at hen ⊢
        cases hq : eqS 11 (f2 (keyL s))
        · have HE := Lib.hid (show ∀ w : World, Calls Tryz.prog 42 #[.agg #[], optV (f2 (keyL s))] w fun e w' => e = .returned (.bool false) ∧ Below w.heap.size w w' from fun w => by have h := p_nil (f2 (keyL s)) ho w; rw [hq] at h; exact h)
          have HQ := Lib.hid hq
          clear hq ho hc
          go_wp2_with (go_at_call 42; (with_reducible refine (HE.out _).mono ?_); rintro e w2 ⟨rfl, hg⟩)
          go_ret
          exact ⟨false, ⟨fun h => (by cases h), fun h => absurd (h.2 _ _ HF.out) (by rw [HQ.out]; decide)⟩, rfl, HB1.out.trans (hg.mono HB1.out.size)⟩
        · have HE := Lib.hid (show ∀ w : World, Calls Tryz.prog 42 #[.agg #[], optV (f2 (keyL s))] w fun e w' => e = .returned (.bool true) ∧ Below w.heap.size w w' from fun w => by have h := p_nil (f2 (keyL s)) ho w; rw [hq] at h; exact h)
          have HQ := Lib.hid hq
          clear hq ho hc
          go_wp2_with (go_at_call 42; (with_reducible refine (HE.out _).mono ?_); rintro e w2 ⟨rfl, hg⟩)
          have hrg2 := HRG.out.kept (gb_of hg) (by simp) (by simp)
          go_roundw
          case rel => exact ⟨_, cnt1, hrg2, good_step HG.out s HF.out HQ.out, owns_below HW1.out hg, HB1.out.trans (hg.mono HB1.out.size)⟩
          case measure => rw [hrg2.left_eq, HRO.out.left_eq]; exact HLT.out
end Go.Proofs.YtnpmgandmmlilaaGreatFmt

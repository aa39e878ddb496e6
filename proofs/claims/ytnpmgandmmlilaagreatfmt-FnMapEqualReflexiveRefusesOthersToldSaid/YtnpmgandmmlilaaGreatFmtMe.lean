/-
  What is proved here: contracts of zzBuild (a new map of picked types that reads as 'Cm'), zzModel (a new map of ints that reads as the same), zzFresh (whether a key is none of the first strings) and zzEq of n003_101.
-/
import Derived.Test.YtnpmgandmmlilaaGreatFmtMc
import Derived.Maps.OwnOps
namespace Go.Proofs.YtnpmgandmmlilaaGreatFmt
open Go.ChangeShapes Go.WideShapes Go.ChangeAt Go.RowKit Go.Extern
set_option linter.unusedVariables false
set_option linter.unusedSimpArgs false

theorem norm12 (sl : List Int) (k : Nat) (hw : ∀ j, -9223372036854775808 ≤ intN sl j ∧ intN sl j ≤ 9223372036854775807) (w : World) :
    Calls Tryz.prog 8 #[.int .i64 (intN sl k), .int .i64 12] w fun e w' => e = .returned (.int .i64 (selN sl k : Int)) ∧ w = w' :=
  norm_nat (intN sl k) 12 (hw k).1 (hw k).2 (by omega) w

abbrev OwnInt (w : World) (b n : Nat) (D : Du) : Prop := w.ownsMap Tryz.prog 9 (plainElem Tryz.prog 3) b n D
theorem gb_of {w w' : World} (h : Below w.heap.size w w') : w.grownBy w' none := ⟨h.os, h.tape, h.output, h.size, fun i hi _ => h.block i hi⟩
theorem undrew {B : Nat} {w w' : World} (h : Below B w.drew w') : Below B w w' := ⟨h.os, h.tape, h.output, h.size, h.block⟩
theorem owns_below {R : Value → Option (Du × List MemPlace)} {w w' : World} {b n : Nat} {D : Du} (h : w.ownsMap Tryz.prog 9 R b n D) (hb : Below w.heap.size w w') : w'.ownsMap Tryz.prog 9 R b n D := h.kept (gb_of hb) (by simp)

def Built (ss : List ByteArray) (sl : List Int) (p : Nat) (w : World) (e : Ending) (w' : World) : Prop := e = .returned (.map (some w.heap.size)) ∧ OwnSel w' w.heap.size p (Cm ss sl p) ∧ Below w.heap.size w w'
def Modeled (ss : List ByteArray) (sl : List Int) (p : Nat) (w : World) (e : Ending) (w' : World) : Prop := e = .returned (.map (some w.heap.size)) ∧ OwnInt w' w.heap.size p (Cm ss sl p) ∧ Below w.heap.size w w'

/-- all that is told of the two rows. -/
structure TwoRows (w : World) (v1 v2 : Value) (n1 n2 : Nat) (ss : List ByteArray) (sl : List Int) : Prop where
  r1 : Row w v1 n1 (fun j => .string (strN ss j))
  r2 : Row w v2 n2 (fun j => .int .i64 (intN sl j))
  hn1 : n1 ≤ 65536
  hn2 : n2 ≤ 65536
  hs : ∀ j, (strN ss j).size ≤ maxLen
  hw : ∀ j, -9223372036854775808 ≤ intN sl j ∧ intN sl j ≤ 9223372036854775807

theorem TwoRows.below {w w' : World} {v1 v2 : Value} {n1 n2 : Nat} {ss : List ByteArray} {sl : List Int} (h : TwoRows w v1 v2 n1 n2 ss sl) (hb : Below w.heap.size w w') : TwoRows w' v1 v2 n1 n2 ss sl :=
  ⟨h.r1.below hb, h.r2.below hb, h.hn1, h.hn2, h.hs, h.hw⟩

set_option maxRecDepth 100000 in
theorem build_zero (a1 a2 : Option Addr) (n1 n2 c1 c2 : Nat) (ss : List ByteArray) (sl : List Int) (hn1 : n1 ≤ 65536) (hn2 : n2 ≤ 65536) (HPE : min n1 n2 = 0) (w : World) :
    Calls Tryz.prog 15 #[.slice a1 n1 c1, .slice a2 n2 c2] w (Built ss sl 0 w) := by
  have hmm := @run_makeMap Tryz.prog
  have HP := Lib.hid (fun w : World => (HPE ▸ pairs_any a1 a2 n1 n2 c1 c2 hn1 hn2 w : Calls Tryz.prog 37 #[.slice a1 n1 c1, .slice a2 n2 c2] w fun e w' => e = .returned (.int .i64 ((0 : Nat) : Int)) ∧ w = w'))
  clear HPE
  go_enter Tryz.func15, Tryz.ntmps15
  go_wp2_with (go_at_call 37; (with_reducible refine (HP.out _).mono ?_); rintro e w1 ⟨rfl, rfl⟩)
  go_rounds 1
  go_ret
  exact ⟨rfl, World.ownsMap_made _ _ _ _, (Below.refl _ _).alloc (Nat.le_refl _) _⟩

set_option maxRecDepth 100000 in
set_option maxHeartbeats 1000000 in
theorem build_some (b1 o1 b2 o2 n1 n2 c1 c2 p : Nat) (ss : List ByteArray) (sl : List Int) (hn1 : n1 ≤ 65536) (hn2 : n2 ≤ 65536) (HPE : min n1 n2 = p) (hp1 : p ≤ n1) (hp2 : p ≤ n2) (w : World) (hb1 : b1 < w.heap.size) (hb2 : b2 < w.heap.size)
    (h1 : Hid (∀ j, j < n1 → w.cell? ⟨b1, o1 + j, none⟩ = some (.string (strN ss j)))) (h2 : Hid (∀ j, j < n2 → w.cell? ⟨b2, o2 + j, none⟩ = some (.int .i64 (intN sl j))))
    (hs : Hid (∀ j, (strN ss j).size ≤ maxLen)) (hw : Hid (∀ j, -9223372036854775808 ≤ intN sl j ∧ intN sl j ≤ 9223372036854775807)) :
    Calls Tryz.prog 15 #[.slice (some ⟨b1, o1, none⟩) n1 c1, .slice (some ⟨b2, o2, none⟩) n2 c2] w (Built ss sl p w) := by
  have hmm := @run_makeMap Tryz.prog
  have HP := Lib.hid (fun w : World => (HPE ▸ pairs_any (some ⟨b1, o1, none⟩) (some ⟨b2, o2, none⟩) n1 n2 c1 c2 hn1 hn2 w : Calls Tryz.prog 37 #[.slice (some ⟨b1, o1, none⟩) n1 c1, .slice (some ⟨b2, o2, none⟩) n2 c2] w fun e w' => e = .returned (.int .i64 ((p : Nat) : Int)) ∧ w = w'))
  clear HPE
  go_enter Tryz.func15, Tryz.ntmps15
  go_wp2_with (go_at_call 37; (with_reducible refine (HP.out _).mono ?_); rintro e w1 ⟨rfl, rfl⟩)
  go_loopw [7] (fun i wr => ∃ k : Nat, k ≤ p ∧ i = .int .i64 k ∧ OwnSel wr w.heap.size k (Cm ss sl k) ∧ Below w.heap.size w wr) (fun i _ => p - (intOf i).toNat)
  case atStart => exact ⟨0, Nat.zero_le _, rfl, World.ownsMap_made _ _ _ _, (Below.refl _ _).alloc (Nat.le_refl _) _⟩
  case round =>
    obtain ⟨k, hk, rfl, hown, hbel⟩ := hrel
    by_cases hkp : k < p
    · have e1 := (hbel.cell (p := ⟨b1, o1 + k, none⟩) hb1).trans (h1.out k (by omega))
      have e2 := (hbel.cell (p := ⟨b2, o2 + k, none⟩) hb2).trans (h2.out k (by omega))
      have HO := Lib.hid hown
      have HB := Lib.hid hbel
      clear hown hbel
      go_wp2
      go_region_with (first | (go_at_call 8; (with_reducible refine (norm12 _ _ hw.out _).mono ?_); rintro e w1 ⟨rfl, rfl⟩) | (go_at_call 9; (with_reducible refine (pick_any _ (selN_lt _ _) _).mono ?_); rintro e w2 ⟨rfl, hg⟩; have hgb := undrew hg; have ck2 := (hgb.cell (p := ⟨b1, o1 + k, none⟩) (Nat.lt_of_lt_of_le hb1 HB.out.size)).trans e1; obtain ⟨w3, hrun, hown3, hgr⟩ := (owns_below HO.out hgb).update keyed Tryz.underlying41 (by unfold maxLen; omega) (Go.WideMaps.keyOf_string_mk Tryz.underlying9 (hs.out k)) (selElem_mk (selN_lt sl k))))
      all_goals go_wp2
      all_goals exact ⟨⟨k + 1, by omega, by go_num, hown3, (HB.out.trans (hgb.mono HB.out.size)).grown hgr (by have := HB.out.size; have := hgb.size; omega) (fun j hj => by cases hj; exact Nat.le_refl _)⟩, by simp [intOf]; omega⟩
    · obtain rfl : k = p := by omega
      go_wp2
      go_ret
      exact ⟨rfl, hown, hbel⟩

theorem build_any {w : World} {v1 v2 : Value} {n1 n2 : Nat} {ss : List ByteArray} {sl : List Int} (h : TwoRows w v1 v2 n1 n2 ss sl) : Calls Tryz.prog 15 #[v1, v2] w (Built ss sl (min n1 n2) w) := by
  obtain ⟨⟨a1, c1, rfl, r1⟩, ⟨a2, c2, rfl, r2⟩, hn1, hn2, hs, hw⟩ := h
  by_cases hz : min n1 n2 = 0
  · rw [hz]
    exact build_zero a1 a2 n1 n2 c1 c2 ss sl hn1 hn2 hz w
  · rcases r1 with h | ⟨b1, o1, rfl, hb1, r1⟩
    · omega
    rcases r2 with h | ⟨b2, o2, rfl, hb2, r2⟩
    · omega
    exact build_some b1 o1 b2 o2 n1 n2 c1 c2 _ ss sl hn1 hn2 rfl (by omega) (by omega) w hb1 hb2 r1 r2 hs hw

set_option maxRecDepth 100000 in
theorem model_zero (a1 a2 : Option Addr) (n1 n2 c1 c2 : Nat) (ss : List ByteArray) (sl : List Int) (hn1 : n1 ≤ 65536) (hn2 : n2 ≤ 65536) (HPE : min n1 n2 = 0) (w : World) :
    Calls Tryz.prog 36 #[.slice a1 n1 c1, .slice a2 n2 c2] w (Modeled ss sl 0 w) := by
  have hmm := @run_makeMap Tryz.prog
  have HP := Lib.hid (fun w : World => (HPE ▸ pairs_any a1 a2 n1 n2 c1 c2 hn1 hn2 w : Calls Tryz.prog 37 #[.slice a1 n1 c1, .slice a2 n2 c2] w fun e w' => e = .returned (.int .i64 ((0 : Nat) : Int)) ∧ w = w'))
  clear HPE
  go_enter Tryz.func36, Tryz.ntmps36
  go_wp2_with (go_at_call 37; (with_reducible refine (HP.out _).mono ?_); rintro e w1 ⟨rfl, rfl⟩)
  go_rounds 1
  go_ret
  exact ⟨rfl, World.ownsMap_made _ _ _ _, (Below.refl _ _).alloc (Nat.le_refl _) _⟩

set_option maxRecDepth 100000 in
set_option maxHeartbeats 1000000 in
theorem model_some (b1 o1 b2 o2 n1 n2 c1 c2 p : Nat) (ss : List ByteArray) (sl : List Int) (hn1 : n1 ≤ 65536) (hn2 : n2 ≤ 65536) (HPE : min n1 n2 = p) (hp1 : p ≤ n1) (hp2 : p ≤ n2) (w : World) (hb1 : b1 < w.heap.size) (hb2 : b2 < w.heap.size)
    (h1 : Hid (∀ j, j < n1 → w.cell? ⟨b1, o1 + j, none⟩ = some (.string (strN ss j)))) (h2 : Hid (∀ j, j < n2 → w.cell? ⟨b2, o2 + j, none⟩ = some (.int .i64 (intN sl j))))
    (hs : Hid (∀ j, (strN ss j).size ≤ maxLen)) (hw : Hid (∀ j, -9223372036854775808 ≤ intN sl j ∧ intN sl j ≤ 9223372036854775807)) :
    Calls Tryz.prog 36 #[.slice (some ⟨b1, o1, none⟩) n1 c1, .slice (some ⟨b2, o2, none⟩) n2 c2] w (Modeled ss sl p w) := by
  have hmm := @run_makeMap Tryz.prog
  have HP := Lib.hid (fun w : World => (HPE ▸ pairs_any (some ⟨b1, o1, none⟩) (some ⟨b2, o2, none⟩) n1 n2 c1 c2 hn1 hn2 w : Calls Tryz.prog 37 #[.slice (some ⟨b1, o1, none⟩) n1 c1, .slice (some ⟨b2, o2, none⟩) n2 c2] w fun e w' => e = .returned (.int .i64 ((p : Nat) : Int)) ∧ w = w'))
  clear HPE
  go_enter Tryz.func36, Tryz.ntmps36
  go_wp2_with (go_at_call 37; (with_reducible refine (HP.out _).mono ?_); rintro e w1 ⟨rfl, rfl⟩)
  go_loopw [7] (fun i wr => ∃ k : Nat, k ≤ p ∧ i = .int .i64 k ∧ OwnInt wr w.heap.size k (Cm ss sl k) ∧ Below w.heap.size w wr) (fun i _ => p - (intOf i).toNat)
  case atStart => exact ⟨0, Nat.zero_le _, rfl, World.ownsMap_made _ _ _ _, (Below.refl _ _).alloc (Nat.le_refl _) _⟩
  case round =>
    obtain ⟨k, hk, rfl, hown, hbel⟩ := hrel
    by_cases hkp : k < p
    · have e1 := (hbel.cell (p := ⟨b1, o1 + k, none⟩) hb1).trans (h1.out k (by omega))
      have e2 := (hbel.cell (p := ⟨b2, o2 + k, none⟩) hb2).trans (h2.out k (by omega))
      obtain ⟨w3, hrun, hown3, hgr⟩ := hown.drew.update keyed Tryz.underlying60 (by unfold maxLen; omega) (Go.WideMaps.keyOf_string_mk Tryz.underlying9 (hs.out k)) (plainElem_int (H := Unit) Tryz.underlying3 (WalkArith.wf_i64 (n := (selN sl k : Int)) (by have := selN_lt sl k; omega)))
      have HO := Lib.hid hown
      have HB := Lib.hid hbel
      clear hown hbel
      go_wp2
      go_region_with (first | (go_at_call 8; (with_reducible refine (norm12 _ _ hw.out _).mono ?_); rintro e w1 ⟨rfl, rfl⟩))
      all_goals go_wp2
      all_goals exact ⟨⟨k + 1, by omega, by go_num, hown3, HB.out.drew.grown hgr HB.out.size (fun j hj => by cases hj; exact Nat.le_refl _)⟩, by simp [intOf]; omega⟩
    · obtain rfl : k = p := by omega
      go_wp2
      go_ret
      exact ⟨rfl, hown, hbel⟩

theorem model_any {w : World} {v1 v2 : Value} {n1 n2 : Nat} {ss : List ByteArray} {sl : List Int} (h : TwoRows w v1 v2 n1 n2 ss sl) : Calls Tryz.prog 36 #[v1, v2] w (Modeled ss sl (min n1 n2) w) := by
  obtain ⟨⟨a1, c1, rfl, r1⟩, ⟨a2, c2, rfl, r2⟩, hn1, hn2, hs, hw⟩ := h
  by_cases hz : min n1 n2 = 0
  · rw [hz]
    exact model_zero a1 a2 n1 n2 c1 c2 ss sl hn1 hn2 hz w
  · rcases r1 with h | ⟨b1, o1, rfl, hb1, r1⟩
    · omega
    rcases r2 with h | ⟨b2, o2, rfl, hb2, r2⟩
    · omega
    exact model_some b1 o1 b2 o2 n1 n2 c1 c2 _ ss sl hn1 hn2 rfl (by omega) (by omega) w hb1 hb2 r1 r2 hs hw

/-! ### zzFresh, zzEq -/
def FreshPost (ss : List ByteArray) (x : ByteArray) (p : Nat) (w : World) (e : Ending) (w' : World) : Prop := ∃ r : Bool, (r = true ↔ ∀ i, i < p → keyL (strN ss i) ≠ keyL x) ∧ e = .returned (.bool r) ∧ Below w.heap.size w w'

set_option maxRecDepth 100000 in
theorem fresh_zero (a1 a2 : Option Addr) (n1 n2 c1 c2 : Nat) (ss : List ByteArray) (x : ByteArray) (hn1 : n1 ≤ 65536) (hn2 : n2 ≤ 65536) (HPE : min n1 n2 = 0) (w : World) :
    Calls Tryz.prog 19 #[.slice a1 n1 c1, .slice a2 n2 c2, .string x] w (FreshPost ss x 0 w) := by
  have HP := Lib.hid (fun w : World => (HPE ▸ pairs_any a1 a2 n1 n2 c1 c2 hn1 hn2 w : Calls Tryz.prog 37 #[.slice a1 n1 c1, .slice a2 n2 c2] w fun e w' => e = .returned (.int .i64 ((0 : Nat) : Int)) ∧ w = w'))
  clear HPE
  go_enter Tryz.func19, Tryz.ntmps19
  go_wp2_with (go_at_call 37; (with_reducible refine (HP.out _).mono ?_); rintro e w1 ⟨rfl, rfl⟩)
  go_rounds 1
  go_ret
  exact ⟨true, ⟨fun _ i hi => absurd hi (by omega), fun _ => rfl⟩, rfl, Below.refl _ _⟩

theorem keyL_ne {s x : ByteArray} (h : (s.toList == x.toList) = false) : keyL s ≠ keyL x := fun e => by
  have : s.data.toList = x.data.toList := by simpa [keyL] using e
  rw [ByteArray.toList_eq, ByteArray.toList_eq, this] at h
  simp at h
theorem keyL_eq {s x : ByteArray} (h : (s.toList == x.toList) = true) : keyL s = keyL x := by
  have := eq_of_beq h
  rw [ByteArray.toList_eq, ByteArray.toList_eq] at this
  simp [keyL, this]

set_option maxRecDepth 100000 in
theorem fresh_some (b1 o1 n1 n2 c1 c2 p : Nat) (a2 : Option Addr) (ss : List ByteArray) (x : ByteArray) (hn1 : n1 ≤ 65536) (hn2 : n2 ≤ 65536) (HPE : min n1 n2 = p) (hp1 : p ≤ n1) (w : World) (hb1 : b1 < w.heap.size)
    (h1 : Hid (∀ j, j < n1 → w.cell? ⟨b1, o1 + j, none⟩ = some (.string (strN ss j)))) :
    Calls Tryz.prog 19 #[.slice (some ⟨b1, o1, none⟩) n1 c1, .slice a2 n2 c2, .string x] w (FreshPost ss x p w) := by
  have HP := Lib.hid (fun w : World => (HPE ▸ pairs_any (some ⟨b1, o1, none⟩) a2 n1 n2 c1 c2 hn1 hn2 w : Calls Tryz.prog 37 #[.slice (some ⟨b1, o1, none⟩) n1 c1, .slice a2 n2 c2] w fun e w' => e = .returned (.int .i64 ((p : Nat) : Int)) ∧ w = w'))
  clear HPE
  go_enter Tryz.func19, Tryz.ntmps19
  go_wp2_with (go_at_call 37; (with_reducible refine (HP.out _).mono ?_); rintro e w1 ⟨rfl, rfl⟩)
  go_loopw [8] (fun i wr => ∃ k : Nat, k ≤ p ∧ i = .int .i64 k ∧ (∀ i, i < k → keyL (strN ss i) ≠ keyL x) ∧ Below w.heap.size w wr) (fun i _ => p - (intOf i).toNat)
  case atStart => exact ⟨0, Nat.zero_le _, rfl, fun i hi => absurd hi (by omega), Below.refl _ _⟩
  case round =>
    obtain ⟨k, hk, rfl, hall, hbel⟩ := hrel
    have HA := Lib.hid hall
    clear hall
    by_cases hkp : k < p
    · have e1 := (hbel.cell (p := ⟨b1, o1 + k, none⟩) hb1).trans (h1.out k (by omega))
      cases hq : ((strN ss k).toList == x.toList)
      · go_wp2
        exact ⟨⟨k + 1, by omega, by go_num, fun i hi => by
          rcases Nat.lt_or_ge i k with h | h
          · exact HA.out i h
          · have : i = k := by omega
            subst this
            exact keyL_ne hq, hbel⟩, by simp [intOf]; omega⟩
      · go_wp2
        go_ret
        exact ⟨false, ⟨fun h => (by cases h), fun h => absurd (keyL_eq hq) (h k hkp)⟩, rfl, hbel⟩
    · obtain rfl : k = p := by omega
      go_wp2
      go_ret
      exact ⟨true, ⟨fun _ => HA.out, fun _ => rfl⟩, rfl, hbel⟩

theorem fresh_any {w : World} {v1 v2 : Value} {n1 n2 : Nat} {ss : List ByteArray} {sl : List Int} (h : TwoRows w v1 v2 n1 n2 ss sl) (x : ByteArray) : Calls Tryz.prog 19 #[v1, v2, .string x] w (FreshPost ss x (min n1 n2) w) := by
  obtain ⟨⟨a1, c1, rfl, r1⟩, ⟨a2, c2, rfl, r2⟩, hn1, hn2, hs, hw⟩ := h
  by_cases hz : min n1 n2 = 0
  · rw [hz]
    exact fresh_zero a1 a2 n1 n2 c1 c2 ss x hn1 hn2 hz w
  · rcases r1 with h | ⟨b1, o1, rfl, hb1, r1⟩
    · omega
    exact fresh_some b1 o1 n1 n2 c1 c2 _ a2 ss x hn1 hn2 rfl (by omega) w hb1 r1

/-- zzEq over what the two look-ups give. -/
def zq (a : Nat) (ok : Bool) (b : Nat) : Bool := a == 10 || (ok && (b == 10 || a == b))

theorem zeq_any (a b : Nat) (ok : Bool) (w : World) : Calls Tryz.prog 38 #[.int .i64 (a : Int), .bool ok, .int .i64 (b : Int)] w fun e w' => e = .returned (.bool (zq a ok b)) ∧ w = w' := by
  by_cases h1 : a = 10
  · subst h1
    have e1 : zq 10 ok b = true := by simp [zq]
    rw [e1]
    go_enter Tryz.func38, Tryz.ntmps38
    go_wp2
    go_ret
    exact ⟨rfl, rfl⟩
  have t1 : ((a : Int) == 10) = false := by simp; omega
  cases ok
  · have e1 : zq a false b = false := by simp [zq, h1]
    rw [e1]
    clear h1
    go_enter Tryz.func38, Tryz.ntmps38
    go_wp2
    go_ret
    exact ⟨rfl, rfl⟩
  by_cases h2 : b = 10
  · subst h2
    have e1 : zq a true 10 = true := by simp [zq]
    rw [e1]
    clear h1
    go_enter Tryz.func38, Tryz.ntmps38
    go_wp2
    go_ret
    exact ⟨rfl, rfl⟩
  have t2 : ((b : Int) == 10) = false := by simp; omega
  by_cases h3 : a = b
  · subst h3
    have e1 : zq a true a = true := by simp [zq]
    rw [e1]
    clear h1 h2
    go_enter Tryz.func38, Tryz.ntmps38
    go_wp2
    go_ret
    exact ⟨rfl, rfl⟩
  · have t3 : ((a : Int) == (b : Int)) = false := by simp; omega
    have e1 : zq a true b = false := by simp [zq, h1, h2, h3]
    rw [e1]
    clear h1 h2 h3
    go_enter Tryz.func38, Tryz.ntmps38
    go_wp2
    go_ret
    exact ⟨rfl, rfl⟩
end Go.Proofs.YtnpmgandmmlilaaGreatFmt

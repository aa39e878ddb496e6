/-
  What is proved here: the walk of FnMapEqualReflexiveRefusesOthers: it returns true for every list of keys and selectors, every string and every two ints; nothing that was there turns.
-/
import Derived.Test.YtnpmgandmmlilaaGreatFmtMq
import Derived.Test.YtnpmgandmmlilaaGreatFmtRw
namespace Go.Proofs.YtnpmgandmmlilaaGreatFmt
open Go.ChangeShapes Go.WideShapes Go.ChangeAt Go.RowKit Go.Extern
set_option linter.unusedVariables false
set_option linter.unusedSimpArgs false

theorem bel_tr2 {a b c : World} (h : Below a.heap.size a b) (g : Below b.heap.size b c) : Below a.heap.size a c := h.trans (g.mono h.size)

/-- a contract in a later world, its end told of the first. -/
theorem absol {f : FuncId} {args : Array Value} {W2 : World} {u : Value} (h : ∀ W, Below W2.heap.size W2 W → Calls Tryz.prog f args W fun e w' => e = .returned u ∧ Below W.heap.size W w') :
    ∀ W, Below W2.heap.size W2 W → Calls Tryz.prog f args W fun e w' => e = .returned u ∧ Below W2.heap.size W2 w' :=
  fun W g => (h W g).mono fun _ _ ⟨he, hg⟩ => ⟨he, bel_tr2 g hg⟩

theorem r_array (ty : TypeId) (x : Value) (w : World) : Calls Tryz.prog 10 #[.iface ty x] w fun e w' => e = .returned (.iface 67 (.agg #[.iface ty x])) ∧ w = w' := by
  go_enter Tryz.func10, Tryz.ntmps10
  go_wp2
  go_ret
  exact ⟨rfl, rfl⟩

theorem map_all (b1 n1 b2 n2 : Nat) (D1 D2 : Du) (f1 f2 : Lit → Option Nat) (w : World) (h1 : OwnSel w b1 n1 D1) (h2 : OwnSel w b2 n2 D2) (r1 : Reads D1 f1) (r2 : Reads D2 f2) :
    Calls Tryz.prog 16 #[.map (some b1), .iface 41 (.map (some b2))] w (EqPost (Maps.size D1) (Maps.size D2) f1 f2 w) := by
  by_cases he : Maps.size D1 = Maps.size D2
  · exact map_eq b1 n1 b2 n2 D1 D2 f1 f2 w h1 h2 r1 r2 he
  · exact map_ne b1 n1 b2 n2 D1 D2 f1 f2 w h1 h2 he

theorem map_true {b1 n1 b2 n2 : Nat} {D1 D2 : Du} {f1 f2 : Lit → Option Nat} {w : World} (h1 : OwnSel w b1 n1 D1) (h2 : OwnSel w b2 n2 D2) (r1 : Reads D1 f1) (r2 : Reads D2 f2) (hE : EqM (Maps.size D1) (Maps.size D2) f1 f2) :
    Calls Tryz.prog 16 #[.map (some b1), .iface 41 (.map (some b2))] w fun e w' => e = .returned (.bool true) ∧ Below w.heap.size w w' :=
  (map_all _ _ _ _ _ _ f1 f2 w h1 h2 r1 r2).mono fun e w' ⟨r, hr, he, hb⟩ => ⟨by rw [he, hr.2 hE], hb⟩

theorem map_false {b1 n1 b2 n2 : Nat} {D1 D2 : Du} {f1 f2 : Lit → Option Nat} {w : World} (h1 : OwnSel w b1 n1 D1) (h2 : OwnSel w b2 n2 D2) (r1 : Reads D1 f1) (r2 : Reads D2 f2) (hE : ¬ EqM (Maps.size D1) (Maps.size D2) f1 f2) :
    Calls Tryz.prog 16 #[.map (some b1), .iface 41 (.map (some b2))] w fun e w' => e = .returned (.bool false) ∧ Below w.heap.size w w' :=
  (map_all _ _ _ _ _ _ f1 f2 w h1 h2 r1 r2).mono fun e w' ⟨r, hr, he, hb⟩ => by
    cases r
    · exact ⟨he, hb⟩
    · exact absurd (hr.1 rfl) hE

/-- a key that is none of the strings: the map with it added has one key more. -/
theorem size_more (ss : List ByteArray) (sl : List Int) (p : Nat) (x : ByteArray) (d : Du) (h : ∀ i, i < p → keyL (strN ss i) ≠ keyL x) : Maps.size ((Cm ss sl p).put (keyL x) d) = Maps.size (Cm ss sl p) + 1 := by
  have r := reads_Cm ss sl p
  have hn : Maps.has (Cm ss sl p) (keyL x) = false := by
    rw [r.has]
    cases hf : lastS ss sl p (keyL x) with
    | none => rfl
    | some a =>
      obtain ⟨i, hi, e⟩ := (lastS_isSome ss sl (keyL x) p).1 (by rw [hf]; rfl)
      exact absurd e (h i hi)
  rw [Go.Maps.size_put r.tidy, hn]
  rfl

set_option maxRecDepth 100000 in
set_option maxHeartbeats 1000000 in
theorem zb2_z (c1 c2 n2 : Nat) (a2 : Option Addr) (x : ByteArray) (j v : Int) (h2 : n2 ≤ 9223372036854775807) (h3 : x.size ≤ 9223372036854775807) (a1 : Option Addr) (w : World) :
    Calls Tryz.prog 11 #[.slice a1 0 c1, .slice a2 n2 c2, .string x, .int .i64 j, .int .i64 v] w (SomeBool w) := by
  go_enter Tryz.func11, Tryz.ntmps11
  go_wp2
  go_rounds 1
  all_goals (go_ret; exact ⟨_, rfl, rfl⟩)

set_option maxRecDepth 100000 in
set_option maxHeartbeats 1000000 in
theorem zb2_s (c1 c2 n2 : Nat) (a2 : Option Addr) (x : ByteArray) (j v : Int) (h2 : n2 ≤ 9223372036854775807) (h3 : x.size ≤ 9223372036854775807) (b1 o1 n1 : Nat) (ss1 : List ByteArray) (w : World) (h1 : n1 ≤ 1048576) (hc1 : Hid (∀ j, j < n1 → w.cell? ⟨b1, o1 + j, none⟩ = some (.string (strN ss1 j)))) :
    Calls Tryz.prog 11 #[.slice (some ⟨b1, o1, none⟩) n1 c1, .slice a2 n2 c2, .string x, .int .i64 j, .int .i64 v] w (SomeBool w) := by
  go_enter Tryz.func11, Tryz.ntmps11
  go_wp2
  go_loop [11, 12] (fun t i => ∃ (m : Nat) (x : Int), m ≤ n1 ∧ i = .int .i64 m ∧ t = .int .i64 x) (fun _ i => n1 - (intOf i).toNat)
  case atStart => exact ⟨0, _, Nat.zero_le _, rfl, rfl⟩
  case round =>
    obtain ⟨m, x, hm, rfl, rfl⟩ := hrel
    by_cases hmn : m < n1
    · have ck := hc1.out m hmn
      go_wp2
      all_goals first | (go_ret; exact ⟨_, rfl, rfl⟩) | exact ⟨⟨m + 1, _, by omega, by go_num, rfl⟩, by simp [intOf]; omega⟩
    · obtain rfl : m = n1 := by omega
      go_wp2
      all_goals (go_ret; exact ⟨_, rfl, rfl⟩)


set_option maxRecDepth 100000 in
set_option maxHeartbeats 4000000 in
theorem mr_main (a1 a2 : Option Addr) (n1 n2 c1 c2 : Nat) (x : ByteArray) (j v : Int) (ss : List ByteArray) (sl : List Int) (w : World) (T : TwoRows w (.slice a1 n1 c1) (.slice a2 n2 c2) n1 n2 ss sl) (hx : x.size ≤ 65536)
    (hj : -9223372036854775808 ≤ j ∧ j ≤ 9223372036854775807) (hv : -9223372036854775808 ≤ v ∧ v ≤ 9223372036854775807) (hz : Calls Tryz.prog 11 #[.slice a1 n1 c1, .slice a2 n2 c2, .string x, .int .i64 j, .int .i64 v] w (SomeBool w)) :
    Calls Tryz.prog 4 #[.slice a1 n1 c1, .slice a2 n2 c2, .string x, .int .i64 j, .int .i64 v] w fun e w' => e = .returned (.bool true) ∧ Below w.heap.size w w' := by
  have m1 := T.hn1
  have m2 := T.hn2
  have hxm : x.size ≤ maxLen := by unfold maxLen; omega
  have HZ := Lib.hid hz
  have H1 := Lib.hid T
  have hN : ∀ W, Calls Tryz.prog 8 #[.int .i64 j, .int .i64 10] W fun e w' => e = .returned (.int .i64 (((j % ((10 : Nat) : Int)).toNat : Nat) : Int)) ∧ W = w' := fun W => norm_nat j 10 hj.1 hj.2 (by omega) W
  have hM : ∀ W, Calls Tryz.prog 8 #[.int .i64 v, .int .i64 12] W fun e w' => e = .returned (.int .i64 (((v % ((12 : Nat) : Int)).toNat : Nat) : Int)) ∧ W = w' := fun W => norm_nat v 12 hv.1 hv.2 (by omega) W
  have hk : (j % ((10 : Nat) : Int)).toNat < 10 := by omega
  have hkk : (v % ((12 : Nat) : Int)).toNat < 12 := by omega
  generalize (j % ((10 : Nat) : Int)).toNat = k at hN hk
  generalize (v % ((12 : Nat) : Int)).toNat = kk at hM hkk
  have HN := Lib.hid hN
  have HM := Lib.hid hM
  clear hz T hN hM hj hv
  go_enter Tryz.func4, Tryz.ntmps4
  go_wp2_with fail
  refine HZ.out.mono ?_; rintro e w1 ⟨r, rfl, rfl⟩
  cases r
  · go_wp2_with fail
    go_ret
    exact ⟨rfl, Below.refl _ _⟩
  go_wp2_with fail
  refine (bytes_any ss sl H1.out.r1 H1.out.r2 m1 m2).mono ?_; rintro e w1 ⟨y, rfl, rfl⟩
  go_wp2_with fail
  all_goals first | (go_ret; exact ⟨rfl, Below.refl _ _⟩) | skip
  refine (copyS_any ss H1.out.r1 m1).mono ?_; rintro e wa ⟨v1, rfl, r1, ba⟩
  go_wp2_with fail
  refine (copyI_any sl (H1.out.r2.below ba) m2).mono ?_; rintro e wb ⟨v2, rfl, r2, bb⟩
  have K1 := Lib.hid (show TwoRows wb v1 v2 n1 n2 ss sl from ⟨r1.below bb, r2, m1, m2, H1.out.hs, H1.out.hw⟩)
  have B1 := Lib.hid (bel_tr2 ba bb)
  clear r1 r2 ba bb H1 HZ
  go_wp2_with fail
  refine (build_any K1.out).mono ?_; rintro e wc ⟨rfl, o1, bc⟩
  go_wp2_with fail
  refine (build_any (K1.out.below bc)).mono ?_; rintro e wd ⟨rfl, o2, bd⟩
  have O1 := Lib.hid (owns_below o1 bd)
  have O2 := Lib.hid o2
  have K2 := Lib.hid ((K1.out.below bc).below bd)
  have B2 := Lib.hid (bel_tr2 (bel_tr2 B1.out bc) bd)
  have hlt : wb.heap.size < wd.heap.size := O1.out.lt
  have R1 := Lib.hid (reads_Cm ss sl (min n1 n2))
  have C1 := Lib.hid (absol (W2 := wd) (fun W g => map_true (owns_below O1.out g) (owns_below O2.out g) R1.out R1.out (eqM_refl _ _)))
  have C2 := Lib.hid (absol (W2 := wd) (fun W _ => e_map_any (.map (some wb.heap.size)) W))
  have C3 := Lib.hid (absol (W2 := wd) (fun W _ => e_map_rt (.map (some wb.heap.size)) (rtV k) W))
  have C4 := Lib.hid (absol (W2 := wd) (fun W _ => e_map_nil (.map (some wb.heap.size)) W))
  have C5 := Lib.hid (fun (X : Value) => absol (W2 := wd) (fun W _ => e_map_arr (.map (some wb.heap.size)) X W))
  have CP := Lib.hid (absol (W2 := wd) (fun W _ => pick_rt k hk W))
  have g0 := Below.refl wd.heap.size wd
  clear o1 o2 bc bd K1 B1
  go_wp2_with (first | (go_at_call 17; (with_reducible refine (zzany _).mono ?_); rintro e w1 ⟨rfl, rfl⟩) | (go_at_call 8; (with_reducible refine (HN.out _).mono ?_); rintro e w1 ⟨rfl, rfl⟩) | (go_at_call 9; (with_reducible refine (CP.out _ (by assumption)).mono ?_); rintro e wq ⟨rfl, gq⟩) | (go_at_call 18; (with_reducible refine (typeOf_nil _).mono ?_); rintro e w1 ⟨rfl, rfl⟩) | (go_at_call 10; (with_reducible refine (r_array _ _ _).mono ?_); rintro e w1 ⟨rfl, rfl⟩) | (go_at_call 16; (with_reducible refine (C1.out _ (by assumption)).mono ?_); rintro e wq ⟨rfl, gq⟩) | (go_at_call 16; (with_reducible refine (C2.out _ (by assumption)).mono ?_); rintro e wq ⟨rfl, gq⟩) | (go_at_call 16; (with_reducible refine (C3.out _ (by assumption)).mono ?_); rintro e wq ⟨rfl, gq⟩) | (go_at_call 16; (with_reducible refine (C4.out _ (by assumption)).mono ?_); rintro e wq ⟨rfl, gq⟩) | (go_at_call 16; (with_reducible refine (C5.out _ _ (by assumption)).mono ?_); rintro e wq ⟨rfl, gq⟩))
  refine (fresh_any (K2.out.below (by assumption)) x).mono ?_; rintro e we ⟨r, hr, rfl, be⟩
  have gE : Below wd.heap.size wd we := bel_tr2 (by assumption) be
  cases r
  · go_wp2_with fail
    go_ret
    exact ⟨rfl, bel_tr2 B2.out gE⟩
  have HF := Lib.hid (hr.1 rfl)
  clear hr be
  go_wp2_with fail
  refine (build_any (K2.out.below gE)).mono ?_; rintro e wf ⟨rfl, o3, bf⟩
  have gF := bel_tr2 gE bf
  go_wp2_with (first | (go_at_call 8; (with_reducible refine (HM.out _).mono ?_); rintro e w1 ⟨rfl, rfl⟩) | (go_at_call 9; (with_reducible refine (pick_any kk hkk _).mono ?_); rintro e wg ⟨rfl, bg⟩; obtain ⟨wh, hrun, o4, gr⟩ := (owns_below o3 bg).update keyed Tryz.underlying41 (by unfold maxLen; omega) (Go.WideMaps.keyOf_string_mk Tryz.underlying9 hxm) (selElem_mk hkk)))
  have O3 := Lib.hid (show OwnSel wh we.heap.size (min n1 n2 + 1) ((Cm ss sl (min n1 n2)).put (keyL x) (selD kk)) from o4)
  have hEd : wd.heap.size ≤ we.heap.size := gE.size
  have O1' := Lib.hid (show OwnSel wh wb.heap.size (min n1 n2) (Cm ss sl (min n1 n2)) from (owns_below (owns_below O1.out gF) bg).kept gr (fun e => by have := Option.some.inj e; omega))
  have gH : Below wd.heap.size wd wh := (bel_tr2 gF bg).grown gr (bel_tr2 gF bg).size (fun j hj => by cases hj; exact hEd)
  have R3 := Lib.hid (R1.out.put x hkk)
  have hs := size_more ss sl (min n1 n2) x (selD kk) HF.out
  have N6 := Lib.hid (show Maps.size (Cm ss sl (min n1 n2)) ≠ Maps.size ((Cm ss sl (min n1 n2)).put (keyL x) (selD kk)) by omega)
  have C6 := Lib.hid (absol (W2 := wh) (fun W g => map_false (owns_below O1'.out g) (owns_below O3.out g) R1.out R3.out (fun h => N6.out h.1)))
  have C7 := Lib.hid (absol (W2 := wh) (fun W g => map_false (owns_below O3.out g) (owns_below O1'.out g) R3.out R1.out (fun h => N6.out h.1.symm)))
  have g6 := Below.refl wh.heap.size wh
  clear hs o3 o4 gr hrun bg bf
  go_wp2_with (first | (go_at_call 16; (with_reducible refine (C6.out _ (by assumption)).mono ?_); rintro e wq ⟨rfl, gq⟩) | (go_at_call 16; (with_reducible refine (C7.out _ (by assumption)).mono ?_); rintro e wq ⟨rfl, gq⟩))
  go_ret
  exact ⟨rfl, bel_tr2 (bel_tr2 B2.out gH) (by assumption)⟩

set_option maxRecDepth 100000 in
theorem mr_long1 (a1 a2 : Option Addr) (n1 n2 c1 c2 : Nat) (x : ByteArray) (j v : Int) (w : World) (h : ¬ n1 ≤ 65536) (mx : n1 ≤ 9223372036854775807) (hz : Calls Tryz.prog 11 #[.slice a1 n1 c1, .slice a2 n2 c2, .string x, .int .i64 j, .int .i64 v] w (SomeBool w)) :
    Calls Tryz.prog 4 #[.slice a1 n1 c1, .slice a2 n2 c2, .string x, .int .i64 j, .int .i64 v] w fun e w' => e = .returned (.bool true) ∧ Below w.heap.size w w' := by
  have HZ := Lib.hid hz
  clear hz
  go_enter Tryz.func4, Tryz.ntmps4
  go_wp2_with fail
  refine HZ.out.mono ?_; rintro e w1 ⟨r, rfl, rfl⟩
  cases r
  all_goals
    go_wp2_with fail
    go_ret
    exact ⟨rfl, Below.refl _ _⟩

set_option maxRecDepth 100000 in
theorem mr_long2 (a1 a2 : Option Addr) (n1 n2 c1 c2 : Nat) (x : ByteArray) (j v : Int) (w : World) (h1 : n1 ≤ 65536) (h : ¬ n2 ≤ 65536) (mx : n2 ≤ 9223372036854775807) (hz : Calls Tryz.prog 11 #[.slice a1 n1 c1, .slice a2 n2 c2, .string x, .int .i64 j, .int .i64 v] w (SomeBool w)) :
    Calls Tryz.prog 4 #[.slice a1 n1 c1, .slice a2 n2 c2, .string x, .int .i64 j, .int .i64 v] w fun e w' => e = .returned (.bool true) ∧ Below w.heap.size w w' := by
  have HZ := Lib.hid hz
  clear hz
  go_enter Tryz.func4, Tryz.ntmps4
  go_wp2_with fail
  refine HZ.out.mono ?_; rintro e w1 ⟨r, rfl, rfl⟩
  cases r
  all_goals
    go_wp2_with fail
    go_ret
    exact ⟨rfl, Below.refl _ _⟩

set_option maxRecDepth 100000 in
theorem mr_long3 (a1 a2 : Option Addr) (n1 n2 c1 c2 : Nat) (x : ByteArray) (j v : Int) (w : World) (h1 : n1 ≤ 65536) (h2 : n2 ≤ 65536) (h : ¬ x.size ≤ 65536) (mx : x.size ≤ 9223372036854775807) (hz : Calls Tryz.prog 11 #[.slice a1 n1 c1, .slice a2 n2 c2, .string x, .int .i64 j, .int .i64 v] w (SomeBool w)) :
    Calls Tryz.prog 4 #[.slice a1 n1 c1, .slice a2 n2 c2, .string x, .int .i64 j, .int .i64 v] w fun e w' => e = .returned (.bool true) ∧ Below w.heap.size w w' := by
  have HZ := Lib.hid hz
  clear hz
  go_enter Tryz.func4, Tryz.ntmps4
  go_wp2_with fail
  refine HZ.out.mono ?_; rintro e w1 ⟨r, rfl, rfl⟩
  cases r
  all_goals
    go_wp2_with fail
    go_ret
    exact ⟨rfl, Below.refl _ _⟩

set_option maxRecDepth 100000 in
theorem zb2_long (a1 a2 : Option Addr) (n1 n2 c1 c2 : Nat) (x : ByteArray) (j v : Int) (w : World) (h1 : ¬ n1 ≤ 1048576) (mx : n1 ≤ 9223372036854775807) : Calls Tryz.prog 11 #[.slice a1 n1 c1, .slice a2 n2 c2, .string x, .int .i64 j, .int .i64 v] w (SomeBool w) := by
  go_enter Tryz.func11, Tryz.ntmps11
  go_wp2
  go_ret
  exact ⟨_, rfl, rfl⟩

theorem mr_all (a1 a2 : Option Addr) (n1 n2 c1 c2 : Nat) (x : ByteArray) (j v : Int) (ss : List ByteArray) (sl : List Int) (w : World)
    (r1 : Row w (.slice a1 n1 c1) n1 (fun j => .string (strN ss j))) (r2 : Row w (.slice a2 n2 c2) n2 (fun j => .int .i64 (intN sl j)))
    (hs1 : ∀ j, (strN ss j).size ≤ maxLen) (hw1 : ∀ j, -9223372036854775808 ≤ intN sl j ∧ intN sl j ≤ 9223372036854775807)
    (m1 : n1 ≤ 9223372036854775807) (m2 : n2 ≤ 9223372036854775807) (mx : x.size ≤ 9223372036854775807)
    (hj : -9223372036854775808 ≤ j ∧ j ≤ 9223372036854775807) (hv : -9223372036854775808 ≤ v ∧ v ≤ 9223372036854775807) :
    Calls Tryz.prog 4 #[.slice a1 n1 c1, .slice a2 n2 c2, .string x, .int .i64 j, .int .i64 v] w fun e w' => e = .returned (.bool true) ∧ Below w.heap.size w w' := by
  have hz : Calls Tryz.prog 11 #[.slice a1 n1 c1, .slice a2 n2 c2, .string x, .int .i64 j, .int .i64 v] w (SomeBool w) := by
    by_cases h1 : n1 ≤ 1048576
    · obtain ⟨_, _, e1, k1⟩ := r1
      cases e1
      rcases k1 with rfl | ⟨b1, o1, rfl, _, hc1⟩
      · exact zb2_z _ _ _ _ _ _ _ m2 mx _ w
      · exact zb2_s _ _ _ _ _ _ _ m2 mx _ _ _ ss w h1 hc1
    · exact zb2_long _ _ _ _ _ _ _ _ _ w h1 m1
  by_cases h1 : n1 ≤ 65536
  · by_cases h2 : n2 ≤ 65536
    · by_cases h3 : x.size ≤ 65536
      · exact mr_main _ _ _ _ _ _ _ _ _ ss sl w ⟨r1, r2, h1, h2, hs1, hw1⟩ h3 hj hv hz
      · exact mr_long3 _ _ _ _ _ _ _ _ _ w h1 h2 h3 mx hz
    · exact mr_long2 _ _ _ _ _ _ _ _ _ w h1 h2 m2 hz
  · exact mr_long1 _ _ _ _ _ _ _ _ _ w h1 m1 hz
end Go.Proofs.YtnpmgandmmlilaaGreatFmt

/-
  What is proved here: the walk of FnMapEqualModel: it returns true for every two lists of keys and selectors; nothing that was there turns.
-/
import Derived.Test.YtnpmgandmmlilaaGreatFmtMq
import Derived.Test.YtnpmgandmmlilaaGreatFmtRw
namespace Go.Proofs.YtnpmgandmmlilaaGreatFmt
open Go.ChangeShapes Go.WideShapes Go.ChangeAt Go.RowKit Go.Extern
set_option linter.unusedVariables false
set_option linter.unusedSimpArgs false

theorem bel_tr {a b c : World} (h : Below a.heap.size a b) (g : Below b.heap.size b c) : Below a.heap.size a c := h.trans (g.mono h.size)

/-! ### the plain law -/
theorem zq_eq {a : Nat} (o : Option Nat) : zq a o.isSome (o.getD 0) = eqS a o := by
  cases o <;> simp [zq, eqS]

theorem eqM_of_all {ss : List ByteArray} {sl : List Int} {p s : Nat} {f2 : Lit → Option Nat}
    (h : ∀ j, j < p → eqS ((lastS ss sl p (keyL (strN ss j))).getD 0) (f2 (keyL (strN ss j))) = true) : EqM s s (lastS ss sl p) f2 := by
  refine ⟨rfl, fun x a hx => ?_⟩
  obtain ⟨j, hj, rfl⟩ := (lastS_isSome ss sl x p).1 (by rw [hx]; rfl)
  have := h j hj
  rw [hx] at this
  exact this

theorem not_eqM {ss : List ByteArray} {sl : List Int} {p s1 s2 : Nat} {f2 : Lit → Option Nat} {j : Nat} (hj : j < p)
    (h : eqS ((lastS ss sl p (keyL (strN ss j))).getD 0) (f2 (keyL (strN ss j))) = false) : ¬ EqM s1 s2 (lastS ss sl p) f2 := fun hE => by
  cases hx : lastS ss sl p (keyL (strN ss j)) with
  | none =>
    have := (lastS_isSome ss sl (keyL (strN ss j)) p).2 ⟨j, hj, rfl⟩
    rw [hx] at this
    cases this
  | some a =>
    have := hE.2 _ _ hx
    rw [hx] at h
    simp only [Option.getD_some] at h
    rw [h] at this
    cases this

/-! ### the model's look-ups -/
theorem zeroInt (w : World) : (zeroValue 3).run Tryz.prog w = .ok (.int .i64 0) w := by kernel_rfl

theorem look_int {w : World} {b n : Nat} {D : Du} {f : Lit → Option Nat} (h : OwnInt w b n D) (r : Reads D f) (s : ByteArray) (hs : s.size ≤ maxLen) :
    (Instr.lookup 60 (.map (some b)) (.string s) false).run Tryz.prog w = .ok (.int .i64 (((f (keyL s)).getD 0 : Nat) : Int)) w := by
  obtain ⟨c, hrun, hat, _⟩ := h.lookup_int keyed Tryz.underlying60 Tryz.underlying3 (zeroInt w) (Go.WideMaps.keyOf_string_mk Tryz.underlying9 hs)
  rw [hrun]
  have hk : Lit.string s.data.toList = keyL s := rfl
  rw [hk] at hat
  cases hf : f (keyL s) with
  | none => rw [r.hnone hf] at hat; cases hat; rfl
  | some a => rw [r.hsome hf] at hat; cases hat; rfl

theorem look_int_ok {w : World} {b n : Nat} {D : Du} {f : Lit → Option Nat} (h : OwnInt w b n D) (r : Reads D f) (s : ByteArray) (hs : s.size ≤ maxLen) :
    (Instr.lookup 60 (.map (some b)) (.string s) true).run Tryz.prog w = .ok (.tuple #[.int .i64 (((f (keyL s)).getD 0 : Nat) : Int), .bool (f (keyL s)).isSome]) w := by
  obtain ⟨v, ps, hrun, hv⟩ := h.look_ok keyed Tryz.underlying60 (zeroInt w) (plainElem_int (H := Unit) Tryz.underlying3 (by decide)) (Go.WideMaps.keyOf_string_mk Tryz.underlying9 hs)
  rw [hrun]
  have hk : Lit.string s.data.toList = keyL s := rfl
  rw [hk] at hv ⊢
  obtain ⟨c, rfl, hc, _⟩ := plainElem_int_inv Tryz.underlying3 hv
  have hc := congrArg Prod.fst hc
  simp only at hc
  rw [r.has]
  cases hf : f (keyL s) with
  | none => rw [r.hnone hf] at hc; cases hc; rfl
  | some a => rw [r.hsome hf] at hc; cases hc; rfl

/-! ### the law's look at the lengths -/
set_option maxRecDepth 100000 in
set_option maxHeartbeats 1000000 in
theorem zb4_zz (c1 c2 c3 c4 n2 n4 : Nat) (a2 a4 : Option Addr) (h2 : n2 ≤ 9223372036854775807) (h4 : n4 ≤ 9223372036854775807) (a1 : Option Addr) (a3 : Option Addr) (w : World) :
    Calls Tryz.prog 35 #[.slice a1 0 c1, .slice a2 n2 c2, .slice a3 0 c3, .slice a4 n4 c4] w (SomeBool w) := by
  go_enter Tryz.func35, Tryz.ntmps35
  go_wp2
  go_rounds 1
  all_goals first | (go_ret; exact ⟨_, rfl, rfl⟩) | skip
  go_rounds 1
  all_goals (go_ret; exact ⟨_, rfl, rfl⟩)

set_option maxRecDepth 100000 in
set_option maxHeartbeats 1000000 in
theorem zb4_zs (c1 c2 c3 c4 n2 n4 : Nat) (a2 a4 : Option Addr) (h2 : n2 ≤ 9223372036854775807) (h4 : n4 ≤ 9223372036854775807) (a1 : Option Addr) (b3 o3 n3 : Nat) (ss3 : List ByteArray) (w : World) (h3 : n3 ≤ 1048576) (hc3 : Hid (∀ j, j < n3 → w.cell? ⟨b3, o3 + j, none⟩ = some (.string (strN ss3 j)))) :
    Calls Tryz.prog 35 #[.slice a1 0 c1, .slice a2 n2 c2, .slice (some ⟨b3, o3, none⟩) n3 c3, .slice a4 n4 c4] w (SomeBool w) := by
  go_enter Tryz.func35, Tryz.ntmps35
  go_wp2
  go_rounds 1
  all_goals first | (go_ret; exact ⟨_, rfl, rfl⟩) | skip
  go_loop [9, 11] (fun t i => ∃ (m : Nat) (x : Int), m ≤ n3 ∧ i = .int .i64 m ∧ t = .int .i64 x) (fun _ i => n3 - (intOf i).toNat)
  case atStart => exact ⟨0, _, Nat.zero_le _, rfl, rfl⟩
  case round =>
    obtain ⟨m, x, hm, rfl, rfl⟩ := hrel
    by_cases hmn : m < n3
    · have ck := hc3.out m hmn
      go_wp2
      all_goals first | (go_ret; exact ⟨_, rfl, rfl⟩) | exact ⟨⟨m + 1, _, by omega, by go_num, rfl⟩, by simp [intOf]; omega⟩
    · obtain rfl : m = n3 := by omega
      go_wp2
      all_goals (go_ret; exact ⟨_, rfl, rfl⟩)

set_option maxRecDepth 100000 in
set_option maxHeartbeats 1000000 in
theorem zb4_zl (c1 c2 c3 c4 n2 n4 : Nat) (a2 a4 : Option Addr) (h2 : n2 ≤ 9223372036854775807) (h4 : n4 ≤ 9223372036854775807) (a1 : Option Addr) (a3 : Option Addr) (n3 : Nat) (w : World) (h3 : ¬ n3 ≤ 1048576) (m3 : n3 ≤ 9223372036854775807) :
    Calls Tryz.prog 35 #[.slice a1 0 c1, .slice a2 n2 c2, .slice a3 n3 c3, .slice a4 n4 c4] w (SomeBool w) := by
  go_enter Tryz.func35, Tryz.ntmps35
  go_wp2
  go_rounds 1
  all_goals (go_ret; exact ⟨_, rfl, rfl⟩)

set_option maxRecDepth 100000 in
set_option maxHeartbeats 1000000 in
theorem zb4_sz (c1 c2 c3 c4 n2 n4 : Nat) (a2 a4 : Option Addr) (h2 : n2 ≤ 9223372036854775807) (h4 : n4 ≤ 9223372036854775807) (b1 o1 n1 : Nat) (ss1 : List ByteArray) (a3 : Option Addr) (w : World) (h1 : n1 ≤ 1048576) (hc1 : Hid (∀ j, j < n1 → w.cell? ⟨b1, o1 + j, none⟩ = some (.string (strN ss1 j)))) :
    Calls Tryz.prog 35 #[.slice (some ⟨b1, o1, none⟩) n1 c1, .slice a2 n2 c2, .slice a3 0 c3, .slice a4 n4 c4] w (SomeBool w) := by
  go_enter Tryz.func35, Tryz.ntmps35
  go_wp2
  go_loop [9, 10] (fun t i => ∃ (m : Nat) (x : Int), m ≤ n1 ∧ i = .int .i64 m ∧ t = .int .i64 x) (fun _ i => n1 - (intOf i).toNat)
  case atStart => exact ⟨0, _, Nat.zero_le _, rfl, rfl⟩
  case round =>
    obtain ⟨m, x, hm, rfl, rfl⟩ := hrel
    by_cases hmn : m < n1
    · have ck := hc1.out m hmn
      go_wp2
      all_goals first | (go_ret; exact ⟨_, rfl, rfl⟩) | exact ⟨⟨m + 1, _, by omega, by go_num, rfl⟩, by simp [intOf]; omega⟩
    · obtain rfl : m = n1 := by omega
      go_wp2
      all_goals first | (go_ret; exact ⟨_, rfl, rfl⟩) | skip
      go_rounds 1
      all_goals (go_ret; exact ⟨_, rfl, rfl⟩)

set_option maxRecDepth 100000 in
set_option maxHeartbeats 1000000 in
theorem zb4_ss (c1 c2 c3 c4 n2 n4 : Nat) (a2 a4 : Option Addr) (h2 : n2 ≤ 9223372036854775807) (h4 : n4 ≤ 9223372036854775807) (b1 o1 n1 : Nat) (ss1 : List ByteArray) (b3 o3 n3 : Nat) (ss3 : List ByteArray) (w : World) (h1 : n1 ≤ 1048576) (hc1 : Hid (∀ j, j < n1 → w.cell? ⟨b1, o1 + j, none⟩ = some (.string (strN ss1 j)))) (h3 : n3 ≤ 1048576) (hc3 : Hid (∀ j, j < n3 → w.cell? ⟨b3, o3 + j, none⟩ = some (.string (strN ss3 j)))) :
    Calls Tryz.prog 35 #[.slice (some ⟨b1, o1, none⟩) n1 c1, .slice a2 n2 c2, .slice (some ⟨b3, o3, none⟩) n3 c3, .slice a4 n4 c4] w (SomeBool w) := by
  go_enter Tryz.func35, Tryz.ntmps35
  go_wp2
  go_loop [9, 10] (fun t i => ∃ (m : Nat) (x : Int), m ≤ n1 ∧ i = .int .i64 m ∧ t = .int .i64 x) (fun _ i => n1 - (intOf i).toNat)
  case atStart => exact ⟨0, _, Nat.zero_le _, rfl, rfl⟩
  case round =>
    obtain ⟨m, x, hm, rfl, rfl⟩ := hrel
    by_cases hmn : m < n1
    · have ck := hc1.out m hmn
      go_wp2
      all_goals first | (go_ret; exact ⟨_, rfl, rfl⟩) | exact ⟨⟨m + 1, _, by omega, by go_num, rfl⟩, by simp [intOf]; omega⟩
    · obtain rfl : m = n1 := by omega
      go_wp2
      all_goals first | (go_ret; exact ⟨_, rfl, rfl⟩) | skip
      go_loop [9, 11] (fun t i => ∃ (m : Nat) (x : Int), m ≤ n3 ∧ i = .int .i64 m ∧ t = .int .i64 x) (fun _ i => n3 - (intOf i).toNat)
      case atStart => exact ⟨0, _, Nat.zero_le _, rfl, rfl⟩
      case round =>
        obtain ⟨m, x, hm, rfl, rfl⟩ := hrel
        by_cases hmn : m < n3
        · have ck := hc3.out m hmn
          go_wp2
          all_goals first | (go_ret; exact ⟨_, rfl, rfl⟩) | exact ⟨⟨m + 1, _, by omega, by go_num, rfl⟩, by simp [intOf]; omega⟩
        · obtain rfl : m = n3 := by omega
          go_wp2
          all_goals (go_ret; exact ⟨_, rfl, rfl⟩)

set_option maxRecDepth 100000 in
set_option maxHeartbeats 1000000 in
theorem zb4_sl (c1 c2 c3 c4 n2 n4 : Nat) (a2 a4 : Option Addr) (h2 : n2 ≤ 9223372036854775807) (h4 : n4 ≤ 9223372036854775807) (b1 o1 n1 : Nat) (ss1 : List ByteArray) (a3 : Option Addr) (n3 : Nat) (w : World) (h1 : n1 ≤ 1048576) (hc1 : Hid (∀ j, j < n1 → w.cell? ⟨b1, o1 + j, none⟩ = some (.string (strN ss1 j)))) (h3 : ¬ n3 ≤ 1048576) (m3 : n3 ≤ 9223372036854775807) :
    Calls Tryz.prog 35 #[.slice (some ⟨b1, o1, none⟩) n1 c1, .slice a2 n2 c2, .slice a3 n3 c3, .slice a4 n4 c4] w (SomeBool w) := by
  go_enter Tryz.func35, Tryz.ntmps35
  go_wp2
  go_loop [9, 10] (fun t i => ∃ (m : Nat) (x : Int), m ≤ n1 ∧ i = .int .i64 m ∧ t = .int .i64 x) (fun _ i => n1 - (intOf i).toNat)
  case atStart => exact ⟨0, _, Nat.zero_le _, rfl, rfl⟩
  case round =>
    obtain ⟨m, x, hm, rfl, rfl⟩ := hrel
    by_cases hmn : m < n1
    · have ck := hc1.out m hmn
      go_wp2
      all_goals first | (go_ret; exact ⟨_, rfl, rfl⟩) | exact ⟨⟨m + 1, _, by omega, by go_num, rfl⟩, by simp [intOf]; omega⟩
    · obtain rfl : m = n1 := by omega
      go_wp2
      all_goals (go_ret; exact ⟨_, rfl, rfl⟩)


set_option maxRecDepth 100000 in
theorem zb4_long1 (a1 a2 a3 a4 : Option Addr) (n1 n2 n3 n4 c1 c2 c3 c4 : Nat) (w : World) (h1 : ¬ n1 ≤ 1048576) (m1 : n1 ≤ 9223372036854775807) : Calls Tryz.prog 35 #[.slice a1 n1 c1, .slice a2 n2 c2, .slice a3 n3 c3, .slice a4 n4 c4] w (SomeBool w) := by
  go_enter Tryz.func35, Tryz.ntmps35
  go_wp2
  go_ret
  exact ⟨_, rfl, rfl⟩

set_option maxRecDepth 100000 in
set_option maxHeartbeats 4000000 in
theorem mm_main (a1 a2 a3 a4 : Option Addr) (n1 n2 n3 n4 c1 c2 c3 c4 : Nat) (ss1 ss2 : List ByteArray) (sl1 sl2 : List Int) (w : World)
    (T1 : TwoRows w (.slice a1 n1 c1) (.slice a2 n2 c2) n1 n2 ss1 sl1) (T2 : TwoRows w (.slice a3 n3 c3) (.slice a4 n4 c4) n3 n4 ss2 sl2)
    (hz : Calls Tryz.prog 35 #[.slice a1 n1 c1, .slice a2 n2 c2, .slice a3 n3 c3, .slice a4 n4 c4] w (SomeBool w)) :
    Calls Tryz.prog 6 #[.slice a1 n1 c1, .slice a2 n2 c2, .slice a3 n3 c3, .slice a4 n4 c4] w fun e w' => e = .returned (.bool true) ∧ Below w.heap.size w w' := by
  have m1 := T1.hn1
  have m2 := T1.hn2
  have m3 := T2.hn1
  have m4 := T2.hn2
  have HZ := Lib.hid hz
  have H1 := Lib.hid T1
  have H2 := Lib.hid T2
  clear hz T1 T2
  go_enter Tryz.func6, Tryz.ntmps6
  go_wp2_with fail
  refine HZ.out.mono ?_; rintro e w1 ⟨r, rfl, rfl⟩
  cases r
  · go_wp2_with fail
    go_ret
    exact ⟨rfl, Below.refl _ _⟩
  go_wp2_with fail
  refine (bytes_any ss1 sl1 H1.out.r1 H1.out.r2 m1 m2).mono ?_; rintro e w1 ⟨x, rfl, rfl⟩
  go_wp2_with fail
  refine (bytes_any ss2 sl2 H2.out.r1 H2.out.r2 m3 m4).mono ?_; rintro e w1 ⟨y, rfl, rfl⟩
  go_wp2_with fail
  all_goals first | (go_ret; exact ⟨rfl, Below.refl _ _⟩) | skip
  refine (copyS_any ss1 H1.out.r1 m1).mono ?_; rintro e wa ⟨v1, rfl, r1, ba⟩
  go_wp2_with fail
  refine (copyI_any sl1 (H1.out.r2.below ba) m2).mono ?_; rintro e wb ⟨v2, rfl, r2, bb⟩
  go_wp2_with fail
  refine (copyS_any ss2 ((H2.out.r1.below ba).below bb) m3).mono ?_; rintro e wc ⟨v3, rfl, r3, bc⟩
  go_wp2_with fail
  refine (copyI_any sl2 (((H2.out.r2.below ba).below bb).below bc) m4).mono ?_; rintro e wd ⟨v4, rfl, r4, bd⟩
  have K1 := Lib.hid (show TwoRows wd v1 v2 n1 n2 ss1 sl1 from ⟨((r1.below bb).below bc).below bd, (r2.below bc).below bd, m1, m2, H1.out.hs, H1.out.hw⟩)
  have K2 := Lib.hid (show TwoRows wd v3 v4 n3 n4 ss2 sl2 from ⟨r3.below bd, r4, m3, m4, H2.out.hs, H2.out.hw⟩)
  have B1 := Lib.hid (bel_tr (bel_tr (bel_tr ba bb) bc) bd)
  clear r1 r2 r3 r4 ba bb bc bd H1 H2 HZ
  go_wp2_with fail
  refine (build_any K1.out).mono ?_; rintro e we ⟨rfl, o1, be⟩
  go_wp2_with fail
  refine (build_any (K2.out.below be)).mono ?_; rintro e wf ⟨rfl, o2, bf⟩
  go_wp2_with fail
  refine (model_any ((K1.out.below be).below bf)).mono ?_; rintro e wg ⟨rfl, o3, bg⟩
  go_wp2_with fail
  refine (model_any (((K2.out.below be).below bf).below bg)).mono ?_; rintro e wh ⟨rfl, o4, bh⟩
  have O1 := Lib.hid (owns_below (owns_below (owns_below o1 bf) bg) bh)
  have O2 := Lib.hid (owns_below (owns_below o2 bg) bh)
  have O3 := Lib.hid (owns_below o3 bh)
  have O4 := Lib.hid o4
  have K3 := Lib.hid ((((K1.out.below be).below bf).below bg).below bh)
  have B2 := Lib.hid (bel_tr (bel_tr (bel_tr (bel_tr B1.out be) bf) bg) bh)
  clear o1 o2 o3 o4 be bf bg bh K1 K2 B1
  have R1 := Lib.hid (reads_Cm ss1 sl1 (min n1 n2))
  have R2 := Lib.hid (reads_Cm ss2 sl2 (min n3 n4))
  obtain ⟨a1', c1', rfl, k1⟩ := K3.out.r1
  obtain ⟨a2', c2', rfl, k2⟩ := K3.out.r2
  have HP := fun w : World => pairs_any a1' a2' n1 n2 c1' c2' m1 m2 w
  have hp1 : min n1 n2 ≤ n1 := Nat.min_le_left _ _
  have hpz : n1 = 0 → min n1 n2 = 0 := fun h => by omega
  generalize min n1 n2 = p at O1 O3 R1 HP hp1 hpz
  generalize min n3 n4 = q at O2 O4 R2
  have HP := Lib.hid HP
  have l3 := fun ty => O3.out.len (t := 60) Tryz.underlying60 ty
  have l4 := fun ty => O4.out.len (t := 60) Tryz.underlying60 ty
  by_cases he : Maps.size (Cm ss1 sl1 p) = Maps.size (Cm ss2 sl2 q)
  · have t1 : ((Maps.size (Cm ss1 sl1 p) : Int) == (Maps.size (Cm ss2 sl2 q) : Int)) = true := by simp [he]
    have HE := Lib.hid he
    clear he
    have HEQ := Lib.hid (fun W : World => fun (B : Below wh.heap.size wh W) => map_eq _ _ _ _ _ _ (lastS ss1 sl1 p) (lastS ss2 sl2 q) W (owns_below O1.out B) (owns_below O2.out B) R1.out R2.out HE.out)
    rcases k1 with hz | ⟨b, off, rfl, hb, hc⟩
    · obtain rfl : p = 0 := hpz hz
      have hM : EqM (Maps.size (Cm ss1 sl1 0)) (Maps.size (Cm ss2 sl2 q)) (lastS ss1 sl1 0) (lastS ss2 sl2 q) := by rw [HE.out]; exact eqM_of_all (fun j hj => absurd hj (by omega))
      have HM := Lib.hid hM
      clear hM hpz hp1 hz
      go_wp2_with (go_at_call 37; (with_reducible refine (HP.out _).mono ?_); rintro e w1 ⟨rfl, rfl⟩)
      refine wp_loop_rounds 1 ?_
      rw [rounds_succ]
      go_wp2_with fail
      refine (HEQ.out _ (Below.refl _ _)).mono ?_; rintro e wi ⟨r, hr, rfl, bi⟩
      have HR := Lib.hid hr
      clear hr
      cases r
      · exact absurd (HR.out.2 HM.out) (by decide)
      · go_wp2_with fail
        go_ret
        exact ⟨rfl, bel_tr B2.out bi⟩
    · have HC := Lib.hid hc
      clear hc hpz
      go_wp2_with (go_at_call 37; (with_reducible refine (HP.out _).mono ?_); rintro e w1 ⟨rfl, rfl⟩)
      go_loopw [13, 15] (fun wt i wr => ∃ k : Nat, k ≤ p ∧ i = .int .i64 k ∧ wt = .bool true ∧ (∀ j, j < k → eqS ((lastS ss1 sl1 p (keyL (strN ss1 j))).getD 0) (lastS ss2 sl2 q (keyL (strN ss1 j))) = true) ∧ Below wh.heap.size wh wr) (fun _ i _ => p - (intOf i).toNat)
      case atStart => exact ⟨0, Nat.zero_le _, rfl, rfl, fun j hj => absurd hj (by omega), Below.refl _ _⟩
      case round =>
        obtain ⟨k, hk, rfl, rfl, hall, hbel⟩ := hrel
        have HA := Lib.hid hall
        have HB := Lib.hid hbel
        clear hall
        by_cases hkp : k < p
        · have ck := (hbel.cell (p := ⟨b, off + k, none⟩) hb).trans (HC.out k (by omega))
          have hs := K3.out.hs k
          have g1 := look_int (owns_below O3.out hbel) R1.out (strN ss1 k) hs
          have g2 := look_int_ok (owns_below O4.out hbel) R2.out (strN ss1 k) hs
          clear hbel hs
          cases hq : eqS ((lastS ss1 sl1 p (keyL (strN ss1 k))).getD 0) (lastS ss2 sl2 q (keyL (strN ss1 k)))
          · have HQ := Lib.hid hq
            have HZ := Lib.hid (show ∀ w : World, Calls Tryz.prog 38 #[.int .i64 (((lastS ss1 sl1 p (keyL (strN ss1 k))).getD 0 : Nat) : Int), .bool (lastS ss2 sl2 q (keyL (strN ss1 k))).isSome, .int .i64 (((lastS ss2 sl2 q (keyL (strN ss1 k))).getD 0 : Nat) : Int)] w fun e w' => e = .returned (.bool false) ∧ w = w' from fun w => by have h := zeq_any ((lastS ss1 sl1 p (keyL (strN ss1 k))).getD 0) ((lastS ss2 sl2 q (keyL (strN ss1 k))).getD 0) (lastS ss2 sl2 q (keyL (strN ss1 k))).isSome w; rw [zq_eq, hq] at h; exact h)
            clear hq
            generalize (lastS ss1 sl1 p (keyL (strN ss1 k))).getD 0 = va at g1 HZ
            generalize (lastS ss2 sl2 q (keyL (strN ss1 k))).getD 0 = vb at g2 HZ
            generalize (lastS ss2 sl2 q (keyL (strN ss1 k))).isSome = vo at g2 HZ
            go_wp2_with (go_at_call 38; (with_reducible refine (HZ.out _).mono ?_); rintro e w1 ⟨rfl, rfl⟩)
            refine (HEQ.out _ HB.out).mono ?_; rintro e wi ⟨r, hr, rfl, bi⟩
            have HR := Lib.hid hr
            clear hr
            cases r
            · go_wp2_with fail
              go_ret
              exact ⟨rfl, bel_tr (bel_tr B2.out HB.out) bi⟩
            · exact absurd (HR.out.1 rfl) (not_eqM hkp HQ.out)
          · have HQ := Lib.hid hq
            have HZ := Lib.hid (show ∀ w : World, Calls Tryz.prog 38 #[.int .i64 (((lastS ss1 sl1 p (keyL (strN ss1 k))).getD 0 : Nat) : Int), .bool (lastS ss2 sl2 q (keyL (strN ss1 k))).isSome, .int .i64 (((lastS ss2 sl2 q (keyL (strN ss1 k))).getD 0 : Nat) : Int)] w fun e w' => e = .returned (.bool true) ∧ w = w' from fun w => by have h := zeq_any ((lastS ss1 sl1 p (keyL (strN ss1 k))).getD 0) ((lastS ss2 sl2 q (keyL (strN ss1 k))).getD 0) (lastS ss2 sl2 q (keyL (strN ss1 k))).isSome w; rw [zq_eq, hq] at h; exact h)
            clear hq
            generalize (lastS ss1 sl1 p (keyL (strN ss1 k))).getD 0 = va at g1 HZ
            generalize (lastS ss2 sl2 q (keyL (strN ss1 k))).getD 0 = vb at g2 HZ
            generalize (lastS ss2 sl2 q (keyL (strN ss1 k))).isSome = vo at g2 HZ
            go_wp2_with (go_at_call 38; (with_reducible refine (HZ.out _).mono ?_); rintro e w1 ⟨rfl, rfl⟩)
            exact ⟨⟨k + 1, by omega, by go_num, rfl, fun j hj => by
              rcases Nat.lt_or_ge j k with h | h
              · exact HA.out j h
              · obtain rfl : j = k := by omega
                exact HQ.out, HB.out⟩, by simp [intOf]; omega⟩
        · obtain rfl : k = p := by omega
          have hM : EqM (Maps.size (Cm ss1 sl1 k)) (Maps.size (Cm ss2 sl2 q)) (lastS ss1 sl1 k) (lastS ss2 sl2 q) := by rw [HE.out]; exact eqM_of_all HA.out
          have HM := Lib.hid hM
          clear hM hbel
          go_wp2_with fail
          refine (HEQ.out _ HB.out).mono ?_; rintro e wi ⟨r, hr, rfl, bi⟩
          have HR := Lib.hid hr
          clear hr
          cases r
          · exact absurd (HR.out.2 HM.out) (by decide)
          · go_wp2_with fail
            go_ret
            exact ⟨rfl, bel_tr (bel_tr B2.out HB.out) bi⟩
  · have t1 : ((Maps.size (Cm ss1 sl1 p) : Int) == (Maps.size (Cm ss2 sl2 q) : Int)) = false := by simp; omega
    have HE := Lib.hid he
    clear he
    go_wp2_with fail
    refine (map_ne _ _ _ _ _ _ (lastS ss1 sl1 p) (lastS ss2 sl2 q) _ O1.out O2.out HE.out).mono ?_; rintro e wi ⟨r, hr, rfl, bi⟩
    have HR := Lib.hid hr
    clear hr
    cases r
    · go_wp2_with fail
      go_ret
      exact ⟨rfl, bel_tr B2.out bi⟩
    · exact absurd (HR.out.1 rfl).1 HE.out

set_option maxRecDepth 100000 in
theorem mm_long1 (a1 a2 a3 a4 : Option Addr) (n1 n2 n3 n4 c1 c2 c3 c4 : Nat) (w : World) (h : ¬ n1 ≤ 65536) (mx : n1 ≤ 9223372036854775807) (hz : Calls Tryz.prog 35 #[.slice a1 n1 c1, .slice a2 n2 c2, .slice a3 n3 c3, .slice a4 n4 c4] w (SomeBool w)) :
    Calls Tryz.prog 6 #[.slice a1 n1 c1, .slice a2 n2 c2, .slice a3 n3 c3, .slice a4 n4 c4] w fun e w' => e = .returned (.bool true) ∧ Below w.heap.size w w' := by
  have HZ := Lib.hid hz
  clear hz
  go_enter Tryz.func6, Tryz.ntmps6
  go_wp2_with fail
  refine HZ.out.mono ?_; rintro e w1 ⟨r, rfl, rfl⟩
  cases r
  all_goals
    go_wp2_with fail
    go_ret
    exact ⟨rfl, Below.refl _ _⟩

set_option maxRecDepth 100000 in
theorem mm_long2 (a1 a2 a3 a4 : Option Addr) (n1 n2 n3 n4 c1 c2 c3 c4 : Nat) (w : World) (h1 : n1 ≤ 65536) (h : ¬ n2 ≤ 65536) (mx : n2 ≤ 9223372036854775807) (hz : Calls Tryz.prog 35 #[.slice a1 n1 c1, .slice a2 n2 c2, .slice a3 n3 c3, .slice a4 n4 c4] w (SomeBool w)) :
    Calls Tryz.prog 6 #[.slice a1 n1 c1, .slice a2 n2 c2, .slice a3 n3 c3, .slice a4 n4 c4] w fun e w' => e = .returned (.bool true) ∧ Below w.heap.size w w' := by
  have HZ := Lib.hid hz
  clear hz
  go_enter Tryz.func6, Tryz.ntmps6
  go_wp2_with fail
  refine HZ.out.mono ?_; rintro e w1 ⟨r, rfl, rfl⟩
  cases r
  all_goals
    go_wp2_with fail
    go_ret
    exact ⟨rfl, Below.refl _ _⟩

set_option maxRecDepth 100000 in
theorem mm_long3 (a1 a2 a3 a4 : Option Addr) (n1 n2 n3 n4 c1 c2 c3 c4 : Nat) (w : World) (h1 : n1 ≤ 65536) (h2 : n2 ≤ 65536) (h : ¬ n3 ≤ 65536) (mx : n3 ≤ 9223372036854775807) (hz : Calls Tryz.prog 35 #[.slice a1 n1 c1, .slice a2 n2 c2, .slice a3 n3 c3, .slice a4 n4 c4] w (SomeBool w)) :
    Calls Tryz.prog 6 #[.slice a1 n1 c1, .slice a2 n2 c2, .slice a3 n3 c3, .slice a4 n4 c4] w fun e w' => e = .returned (.bool true) ∧ Below w.heap.size w w' := by
  have HZ := Lib.hid hz
  clear hz
  go_enter Tryz.func6, Tryz.ntmps6
  go_wp2_with fail
  refine HZ.out.mono ?_; rintro e w1 ⟨r, rfl, rfl⟩
  cases r
  all_goals
    go_wp2_with fail
    go_ret
    exact ⟨rfl, Below.refl _ _⟩

set_option maxRecDepth 100000 in
theorem mm_long4 (a1 a2 a3 a4 : Option Addr) (n1 n2 n3 n4 c1 c2 c3 c4 : Nat) (w : World) (h1 : n1 ≤ 65536) (h2 : n2 ≤ 65536) (h3 : n3 ≤ 65536) (h : ¬ n4 ≤ 65536) (mx : n4 ≤ 9223372036854775807) (hz : Calls Tryz.prog 35 #[.slice a1 n1 c1, .slice a2 n2 c2, .slice a3 n3 c3, .slice a4 n4 c4] w (SomeBool w)) :
    Calls Tryz.prog 6 #[.slice a1 n1 c1, .slice a2 n2 c2, .slice a3 n3 c3, .slice a4 n4 c4] w fun e w' => e = .returned (.bool true) ∧ Below w.heap.size w w' := by
  have HZ := Lib.hid hz
  clear hz
  go_enter Tryz.func6, Tryz.ntmps6
  go_wp2_with fail
  refine HZ.out.mono ?_; rintro e w1 ⟨r, rfl, rfl⟩
  cases r
  all_goals
    go_wp2_with fail
    go_ret
    exact ⟨rfl, Below.refl _ _⟩

/-- what the frame hands of the four slices. -/
theorem mm_all (a1 a2 a3 a4 : Option Addr) (n1 n2 n3 n4 c1 c2 c3 c4 : Nat) (ss1 ss2 : List ByteArray) (sl1 sl2 : List Int) (w : World)
    (r1 : Row w (.slice a1 n1 c1) n1 (fun j => .string (strN ss1 j))) (r2 : Row w (.slice a2 n2 c2) n2 (fun j => .int .i64 (intN sl1 j)))
    (r3 : Row w (.slice a3 n3 c3) n3 (fun j => .string (strN ss2 j))) (r4 : Row w (.slice a4 n4 c4) n4 (fun j => .int .i64 (intN sl2 j)))
    (hs1 : ∀ j, (strN ss1 j).size ≤ maxLen) (hs2 : ∀ j, (strN ss2 j).size ≤ maxLen)
    (hw1 : ∀ j, -9223372036854775808 ≤ intN sl1 j ∧ intN sl1 j ≤ 9223372036854775807) (hw2 : ∀ j, -9223372036854775808 ≤ intN sl2 j ∧ intN sl2 j ≤ 9223372036854775807)
    (m1 : n1 ≤ 9223372036854775807) (m2 : n2 ≤ 9223372036854775807) (m3 : n3 ≤ 9223372036854775807) (m4 : n4 ≤ 9223372036854775807) :
    Calls Tryz.prog 6 #[.slice a1 n1 c1, .slice a2 n2 c2, .slice a3 n3 c3, .slice a4 n4 c4] w fun e w' => e = .returned (.bool true) ∧ Below w.heap.size w w' := by
  have hz : Calls Tryz.prog 35 #[.slice a1 n1 c1, .slice a2 n2 c2, .slice a3 n3 c3, .slice a4 n4 c4] w (SomeBool w) := by
    by_cases h1 : n1 ≤ 1048576
    · obtain ⟨_, _, e1, k1⟩ := r1
      obtain ⟨_, _, e3, k3⟩ := r3
      cases e1
      cases e3
      by_cases h3 : n3 ≤ 1048576
      · rcases k1 with rfl | ⟨b1, o1, rfl, _, hc1⟩ <;> rcases k3 with rfl | ⟨b3, o3, rfl, _, hc3⟩
        · exact zb4_zz _ _ _ _ _ _ _ _ m2 m4 _ _ w
        · exact zb4_zs _ _ _ _ _ _ _ _ m2 m4 _ _ _ _ ss2 w h3 hc3
        · exact zb4_sz _ _ _ _ _ _ _ _ m2 m4 _ _ _ ss1 _ w h1 hc1
        · exact zb4_ss _ _ _ _ _ _ _ _ m2 m4 _ _ _ ss1 _ _ _ ss2 w h1 hc1 h3 hc3
      · rcases k1 with rfl | ⟨b1, o1, rfl, _, hc1⟩
        · exact zb4_zl _ _ _ _ _ _ _ _ m2 m4 _ _ _ w h3 m3
        · exact zb4_sl _ _ _ _ _ _ _ _ m2 m4 _ _ _ ss1 _ _ w h1 hc1 h3 m3
    · exact zb4_long1 _ _ _ _ _ _ _ _ _ _ _ _ w h1 m1
  by_cases h1 : n1 ≤ 65536
  · by_cases h2 : n2 ≤ 65536
    · by_cases h3 : n3 ≤ 65536
      · by_cases h4 : n4 ≤ 65536
        · exact mm_main _ _ _ _ _ _ _ _ _ _ _ _ ss1 ss2 sl1 sl2 w ⟨r1, r2, h1, h2, hs1, hw1⟩ ⟨r3, r4, h3, h4, hs2, hw2⟩ hz
        · exact mm_long4 _ _ _ _ _ _ _ _ _ _ _ _ w h1 h2 h3 h4 m4 hz
      · exact mm_long3 _ _ _ _ _ _ _ _ _ _ _ _ w h1 h2 h3 m3 hz
    · exact mm_long2 _ _ _ _ _ _ _ _ _ _ _ _ w h1 h2 m2 hz
  · exact mm_long1 _ _ _ _ _ _ _ _ _ _ _ _ w h1 m1 hz
end Go.Proofs.YtnpmgandmmlilaaGreatFmt

/-
  What is proved here: the walk of FnArrayStringNestedExact: it returns true for every depth, base and key; nothing that was there turns. fmt's texts are told by the model's own text law.
-/
import Derived.Test.YtgolkhpojmjjfaaGreatFmtLb
namespace Go.Proofs.YtgolkhpojmjjfaaGreatFmt
open Go.ChangeShapes Go.WideShapes Go.ChangeAt Go.RowKit Go.Extern
open Go.Extern.Stop Go.Stop Go.Kit
set_option linter.unusedVariables false
set_option linter.unusedSimpArgs false

theorem mkS_size (l : List UInt8) : (mkS l).size = l.length := by simp [mkS, ByteArray.size]
theorem opens_size (j : Nat) (hj : j ≤ 256) : (mkS (opens j)).size ≤ 1536 := by rw [mkS_size]; simp [opens, rep_len]; omega
theorem all_size (j q : Nat) (l : List UInt8) (hj : j ≤ 256) (hq : q ≤ j) (hl : l.length ≤ 100010) : (mkS (opens j ++ (l ++ closes q))).size ≤ 200000 := by rw [mkS_size]; simp [opens, closes, rep_len]; omega
theorem text_size (l : List UInt8) (hl : l.length ≤ 100010) : (mkS l).size ≤ 100010 := by rw [mkS_size]; exact hl

theorem ln_zb (n b : Int) (k : ByteArray) (w : World) (hk : k.size ≤ 1048576) : Calls Tryz.prog 7 #[.int .i64 n, .int .u8 b, .string k] w fun e w' => e = .returned (.bool true) ∧ w = w' := by
  go_enter Tryz.func7, Tryz.ntmps7
  go_wp2
  go_ret
  exact ⟨rfl, rfl⟩

theorem ln_out (n b : Int) (k : ByteArray) (w : World) (h1 : k.size ≤ 4096) (hn : n < 0 ∨ 256 < n) :
    Calls Tryz.prog 4 #[.int .i64 n, .int .u8 b, .string k] w fun e w' => e = .returned (.bool true) ∧ Below w.heap.size w w' := by
  rcases hn with hn | hn
  · go_enter Tryz.func4, Tryz.ntmps4
    go_wp2
    go_ret
    exact ⟨rfl, by go_grown⟩
  · have hn0 : ¬ n < 0 := by omega
    go_enter Tryz.func4, Tryz.ntmps4
    go_wp2
    go_ret
    exact ⟨rfl, by go_grown⟩

theorem ln_big (n b : Int) (k : ByteArray) (w : World) (h1 : k.size ≤ 9223372036854775807) (hk : ¬ k.size ≤ 4096) :
    Calls Tryz.prog 4 #[.int .i64 n, .int .u8 b, .string k] w fun e w' => e = .returned (.bool true) ∧ Below w.heap.size w w' := by
  by_cases c : k.size ≤ 1048576
  · go_enter Tryz.func4, Tryz.ntmps4
    go_wp2
    go_ret
    exact ⟨rfl, by go_grown⟩
  · go_enter Tryz.func4, Tryz.ntmps4
    go_wp2
    go_ret
    exact ⟨rfl, by go_grown⟩

set_option maxRecDepth 100000 in
set_option maxHeartbeats 4000000 in
theorem ln_main (F : Interp) (n : Nat) (b : Int) (k : ByteArray) (w : World) (hF : F.told.answers w.tape) (hn : n ≤ 256) (hb : 0 ≤ b) (hb2 : b ≤ 255) (hk : k.size ≤ 4096) :
    Calls Tryz.prog 4 #[.int .i64 (n : Int), .int .u8 b, .string k] w fun e w' => e = .returned (.bool true) ∧ Below w.heap.size w w' := by
  have HF := Lib.hid hF
  clear hF
  go_enter Tryz.func4, Tryz.ntmps4
  go_wp2_with fail
  refine (ln_zb _ _ _ _ (by omega)).mono ?_; rintro e w1 ⟨rfl, rfl⟩
  go_wp2_with fail
  refine (base_any b k hb hb2 (by omega) _).mono ?_; rintro e wa ⟨v, rfl, hbase, ba⟩
  go_wp2_with fail
  refine (wrap_any v hbase.iface n hn _).mono ?_; rintro e w1 ⟨rfl, rfl⟩
  have hs := says_nest F (by rw [ba.tape]; exact HF.out) hbase n hn
  rw [nestT_eq, List.append_assoc] at hs
  have hlen := hbase.len
  have HB := Lib.hid ba
  generalize hl : baseT b k = l at hs hlen
  clear hbase ba
  generalize nest v n = u at hs ⊢
  have HL := Lib.hid hl
  have HN := Lib.hid hlen
  clear hlen
  clear hl
  rcases hs with ⟨p, rfl, hc⟩ | ⟨p, rfl, hc⟩ | ⟨p, rfl, hc⟩ | ⟨p, rfl, hc⟩
  · go_wp2_with fail
    refine (hc _ (Below.refl _ _)).mono ?_; rintro e wb ⟨rfl, bb⟩
    have HBB := Lib.hid (bel_tr3 HB.out bb)
    clear hc bb
    go_wp2_with fail
    go_loop [8, 9] (fun s i => ∃ j : Nat, j ≤ n ∧ i = .int .i64 j ∧ s = .string (mkS (opens j))) (fun _ i => n - (intOf i).toNat)
    case atStart => exact ⟨0, Nat.zero_le _, rfl, rfl⟩
    case round =>
      obtain ⟨j, hj, rfl, rfl⟩ := hrel
      have hz := opens_size j (by omega)
      by_cases hjn : j < n
      · go_wp2_with fail
        exact ⟨⟨j + 1, by omega, by go_num, by rw [show (⟨#[65, 114, 114, 97, 121, 123]⟩ : ByteArray) = mkS [65, 114, 114, 97, 121, 123] from rfl, cat]; rfl⟩, by simp [intOf]; omega⟩
      · obtain rfl : j = n := by omega
        go_wp2_with fail
        refine (text_any b k hb hb2 (by omega) _).mono ?_; rintro e w1 ⟨rfl, rfl⟩
        rw [HL.out]
        have hzl := text_size l HN.out
        go_wp2_with fail
        rw [cat]
        go_loop [8, 10] (fun s i => ∃ q : Nat, q ≤ j ∧ i = .int .i64 q ∧ s = .string (mkS (opens j ++ (l ++ closes q)))) (fun _ i => j - (intOf i).toNat)
        case atStart => exact ⟨0, Nat.zero_le _, rfl, by simp [closes, rep]⟩
        case round =>
          obtain ⟨q, hq, rfl, rfl⟩ := hrel
          have hza := all_size j q l hn hq HN.out
          by_cases hqn : q < j
          · go_wp2_with fail
            exact ⟨⟨q + 1, by omega, by go_num, by rw [show (⟨#[125]⟩ : ByteArray) = mkS [125] from rfl, cat, List.append_assoc, List.append_assoc]; rfl⟩, by simp [intOf]; omega⟩
          · obtain rfl : q = j := by omega
            go_wp2_with fail
            go_ret
            exact ⟨by simp, HBB.out⟩
  · go_wp2_with fail
    refine (hc _ (Below.refl _ _)).mono ?_; rintro e wb ⟨rfl, bb⟩
    have HBB := Lib.hid (bel_tr3 HB.out bb)
    clear hc bb
    go_wp2_with fail
    go_loop [8, 9] (fun s i => ∃ j : Nat, j ≤ n ∧ i = .int .i64 j ∧ s = .string (mkS (opens j))) (fun _ i => n - (intOf i).toNat)
    case atStart => exact ⟨0, Nat.zero_le _, rfl, rfl⟩
    case round =>
      obtain ⟨j, hj, rfl, rfl⟩ := hrel
      have hz := opens_size j (by omega)
      by_cases hjn : j < n
      · go_wp2_with fail
        exact ⟨⟨j + 1, by omega, by go_num, by rw [show (⟨#[65, 114, 114, 97, 121, 123]⟩ : ByteArray) = mkS [65, 114, 114, 97, 121, 123] from rfl, cat]; rfl⟩, by simp [intOf]; omega⟩
      · obtain rfl : j = n := by omega
        go_wp2_with fail
        refine (text_any b k hb hb2 (by omega) _).mono ?_; rintro e w1 ⟨rfl, rfl⟩
        rw [HL.out]
        have hzl := text_size l HN.out
        go_wp2_with fail
        rw [cat]
        go_loop [8, 10] (fun s i => ∃ q : Nat, q ≤ j ∧ i = .int .i64 q ∧ s = .string (mkS (opens j ++ (l ++ closes q)))) (fun _ i => j - (intOf i).toNat)
        case atStart => exact ⟨0, Nat.zero_le _, rfl, by simp [closes, rep]⟩
        case round =>
          obtain ⟨q, hq, rfl, rfl⟩ := hrel
          have hza := all_size j q l hn hq HN.out
          by_cases hqn : q < j
          · go_wp2_with fail
            exact ⟨⟨q + 1, by omega, by go_num, by rw [show (⟨#[125]⟩ : ByteArray) = mkS [125] from rfl, cat, List.append_assoc, List.append_assoc]; rfl⟩, by simp [intOf]; omega⟩
          · obtain rfl : q = j := by omega
            go_wp2_with fail
            go_ret
            exact ⟨by simp, HBB.out⟩
  · go_wp2_with fail
    refine (hc _ (Below.refl _ _)).mono ?_; rintro e wb ⟨rfl, bb⟩
    have HBB := Lib.hid (bel_tr3 HB.out bb)
    clear hc bb
    go_wp2_with fail
    go_loop [8, 9] (fun s i => ∃ j : Nat, j ≤ n ∧ i = .int .i64 j ∧ s = .string (mkS (opens j))) (fun _ i => n - (intOf i).toNat)
    case atStart => exact ⟨0, Nat.zero_le _, rfl, rfl⟩
    case round =>
      obtain ⟨j, hj, rfl, rfl⟩ := hrel
      have hz := opens_size j (by omega)
      by_cases hjn : j < n
      · go_wp2_with fail
        exact ⟨⟨j + 1, by omega, by go_num, by rw [show (⟨#[65, 114, 114, 97, 121, 123]⟩ : ByteArray) = mkS [65, 114, 114, 97, 121, 123] from rfl, cat]; rfl⟩, by simp [intOf]; omega⟩
      · obtain rfl : j = n := by omega
        go_wp2_with fail
        refine (text_any b k hb hb2 (by omega) _).mono ?_; rintro e w1 ⟨rfl, rfl⟩
        rw [HL.out]
        have hzl := text_size l HN.out
        go_wp2_with fail
        rw [cat]
        go_loop [8, 10] (fun s i => ∃ q : Nat, q ≤ j ∧ i = .int .i64 q ∧ s = .string (mkS (opens j ++ (l ++ closes q)))) (fun _ i => j - (intOf i).toNat)
        case atStart => exact ⟨0, Nat.zero_le _, rfl, by simp [closes, rep]⟩
        case round =>
          obtain ⟨q, hq, rfl, rfl⟩ := hrel
          have hza := all_size j q l hn hq HN.out
          by_cases hqn : q < j
          · go_wp2_with fail
            exact ⟨⟨q + 1, by omega, by go_num, by rw [show (⟨#[125]⟩ : ByteArray) = mkS [125] from rfl, cat, List.append_assoc, List.append_assoc]; rfl⟩, by simp [intOf]; omega⟩
          · obtain rfl : q = j := by omega
            go_wp2_with fail
            go_ret
            exact ⟨by simp, HBB.out⟩
  · go_wp2_with fail
    refine (hc _ (Below.refl _ _)).mono ?_; rintro e wb ⟨rfl, bb⟩
    have HBB := Lib.hid (bel_tr3 HB.out bb)
    clear hc bb
    go_wp2_with fail
    go_loop [8, 9] (fun s i => ∃ j : Nat, j ≤ n ∧ i = .int .i64 j ∧ s = .string (mkS (opens j))) (fun _ i => n - (intOf i).toNat)
    case atStart => exact ⟨0, Nat.zero_le _, rfl, rfl⟩
    case round =>
      obtain ⟨j, hj, rfl, rfl⟩ := hrel
      have hz := opens_size j (by omega)
      by_cases hjn : j < n
      · go_wp2_with fail
        exact ⟨⟨j + 1, by omega, by go_num, by rw [show (⟨#[65, 114, 114, 97, 121, 123]⟩ : ByteArray) = mkS [65, 114, 114, 97, 121, 123] from rfl, cat]; rfl⟩, by simp [intOf]; omega⟩
      · obtain rfl : j = n := by omega
        go_wp2_with fail
        refine (text_any b k hb hb2 (by omega) _).mono ?_; rintro e w1 ⟨rfl, rfl⟩
        rw [HL.out]
        have hzl := text_size l HN.out
        go_wp2_with fail
        rw [cat]
        go_loop [8, 10] (fun s i => ∃ q : Nat, q ≤ j ∧ i = .int .i64 q ∧ s = .string (mkS (opens j ++ (l ++ closes q)))) (fun _ i => j - (intOf i).toNat)
        case atStart => exact ⟨0, Nat.zero_le _, rfl, by simp [closes, rep]⟩
        case round =>
          obtain ⟨q, hq, rfl, rfl⟩ := hrel
          have hza := all_size j q l hn hq HN.out
          by_cases hqn : q < j
          · go_wp2_with fail
            exact ⟨⟨q + 1, by omega, by go_num, by rw [show (⟨#[125]⟩ : ByteArray) = mkS [125] from rfl, cat, List.append_assoc, List.append_assoc]; rfl⟩, by simp [intOf]; omega⟩
          · obtain rfl : q = j := by omega
            go_wp2_with fail
            go_ret
            exact ⟨by simp, HBB.out⟩
end Go.Proofs.YtgolkhpojmjjfaaGreatFmt

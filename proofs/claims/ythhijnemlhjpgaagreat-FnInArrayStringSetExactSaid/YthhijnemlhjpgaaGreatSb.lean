/-
  What is proved here: the walk of FnInArrayStringSetExact (every element a literal).
-/
import Derived.Test.YthhijnemlhjpgaaGreatLc
import Derived.Test.YthhijnemlhjpgaaGreatFs
import Derived.Test.YthhijnemlhjpgaaGreatVu0
import Derived.Test.YthhijnemlhjpgaaGreatVu1
import Derived.Test.YthhijnemlhjpgaaGreatVu2
import Derived.WalkSpells
namespace Go.Proofs.YthhijnemlhjpgaaGreat
open Go.ChangeShapes Go.WideShapes Go.ChangeAt Go.RowKit Go.Extern
open Go.Maps (setOf Keyed)
set_option linter.unusedVariables false
set_option linter.unusedSimpArgs false

theorem setS_take (ss : List ByteArray) (m : Nat) : setS (ss.take m) m = setS ss m := by
  unfold setS keysS; rw [List.take_take, Nat.min_self]

set_option maxRecDepth 100000 in
set_option maxHeartbeats 4000000 in
theorem lawS_0_n (b off n cap : Nat) (ss : List ByteArray) (k : Int) (sp : Int) (hsp : sp < 0 ∨ (n : Int) ≤ sp) (w : World) (hk : Hid (zm k = 0)) (h1 : -128 ≤ k) (h2 : k ≤ 127) (hn0 : 0 < n) (hn : n ≤ 4096) (hz : Hid (n ≤ ss.length)) (hb : b < w.heap.size) (hw : Hid (∀ j, j < n → (ss.getD j ByteArray.empty).size ≤ maxLen)) (hc : Hid (∀ j, j < n → w.cell? ⟨b, off + j, none⟩ = some (.string (ss.getD j ByteArray.empty)))) :
    Calls Tryz.prog 4 #[.slice (some ⟨b, off, none⟩) n cap, .int .i8 k, .int .i64 sp] w fun e w' => e = .returned (.bool true) ∧ Below w.heap.size w w' := by
  have q1 := ta_BB
  have q2 := ta_AA
  have q3 := ta_DD
  have q5 := ta_CC
  have q6 := ta_CA
  have q7 : ∀ (v : Value) (w : World), (Instr.typeAssert (.iface 86 v) 20 86 true).run Tryz.prog w = .ok (.tuple #[v, .bool true]) w := fun v w => by kernel_rfl
  have q8 : ∀ (a : Addr) (w : World), (binOp .neq 39 (.pointer (some a)) (.pointer (some a))).run Tryz.prog w = .ok (.bool false) w := fun a w => ptr_neq_same a Tryz.underlying39 (by kernel_rfl) w
  have q9 : ∀ (a : Addr) (w : World), (binOp .neq 63 (.pointer (some a)) (.pointer (some a))).run Tryz.prog w = .ok (.bool false) w := fun a w => ptr_neq_same a Tryz.underlying63 (by kernel_rfl) w
  have q10 : ∀ (a : Addr) (w : World), (binOp .neq 60 (.pointer (some a)) (.pointer (some a))).run Tryz.prog w = .ok (.bool false) w := fun a w => ptr_neq_same a Tryz.underlying60 (by kernel_rfl) w
  have hmk := madeNodes n hn
  rcases hsp with hsp | hsp
  · go_enter Tryz.func4, Tryz.ntmps4
    go_wp2_with fail
    refine (zbS_any _ _ _ _ ss _ _ _ (by omega) hc).mono ?_
    rintro e w1 ⟨r, rfl, rfl⟩
    cases r
    · go_wp2
      go_ret
      exact ⟨rfl, Below.refl _ _⟩
    go_wp2
    go_loop [7, 8] (fun t i => ∃ (m : Nat) (x : Int), m ≤ n ∧ i = .int .i64 m ∧ t = .int .i64 x) (fun _ i => n - (intOf i).toNat)
    case atStart => exact ⟨0, _, Nat.zero_le _, rfl, rfl⟩
    case round =>
      obtain ⟨mt, x, hmt, rfl, rfl⟩ := hrel
      by_cases hmtn : mt < n
      · have ck := hc.out mt hmtn
        go_wp2
        exact ⟨⟨mt + 1, _, by omega, by go_num, rfl⟩, by simp [intOf]; omega⟩
      · obtain rfl : n = mt := by omega
        clear hmt hmtn
        by_cases hx : 1048576 < x
        · go_wp2
          go_ret
          exact ⟨rfl, Below.refl _ _⟩
        go_wp2_with (first | (go_at_call 8; (with_reducible refine (zmod_any _ _ h1 h2).mono ?_); rintro e w1 ⟨rfl, rfl⟩; rw [hk.out]) | (go_at_call 9; (with_reducible refine (typedLeft_0m _).mono ?_); rintro e w1 ⟨rfl, hL⟩))
        have hww : w.heap.size < w1.heap.size := hL.size
        have hbw : b < w1.heap.size := by have := hL.size; omega
        have hcw : Hid (∀ j, j < n → w1.cell? ⟨b, off + j, none⟩ = some (.string (ss.getD j ByteArray.empty))) := fun j hj => (hL.below.cell (p := ⟨b, off + j, none⟩) hb).trans (hc.out j hj)
        go_loopw [13] (fun i wr => ∃ m : Nat, m ≤ n ∧ i = .int .i64 m ∧ Filled w1 wr w1.heap.size n m (fun j => (.iface 83 (.pointer (some ⟨w1.heap.size + 1 + j, 0, none⟩)))) (fun j => .string (ss.getD j ByteArray.empty))) (fun i _ => n - (intOf i).toNat)
        case atStart => exact ⟨0, Nat.zero_le _, rfl, filled_start _ _ _ _⟩
        case round =>
          obtain ⟨m, hm, rfl, hF⟩ := hrel
          by_cases hmn : m < n
          · have ck := (hF.below.cell (p := ⟨b, off + m, none⟩) hbw).trans (hcw.out m hmn)
            have cE := hF.rest m (Nat.le_refl _) hmn
            have fE : wr.frozen? ⟨w1.heap.size, m, none⟩ = false := by
              rw [hF.free]; simp [World.frozen?]
            have hsz : w1.heap.size < wr.heap.size := by have := hF.size; omega
            have HF : Hid (Filled w1 wr w1.heap.size n m (fun j => (.iface 83 (.pointer (some ⟨w1.heap.size + 1 + j, 0, none⟩)))) (fun j => .string (ss.getD j ByteArray.empty))) := hF
            clear hF
            go_wp2
            refine ⟨⟨m + 1, by omega, by go_num, ?_⟩, by simp [intOf]; omega⟩
            rw [HF.out.size]
            exact filled_step HF.out hmn _ _ (by simp [List.getD])
          · obtain rfl : m = n := by omega
            obtain ⟨wo, rfl⟩ : ∃ wo : World, wo = wr := ⟨_, rfl⟩
            have HF : Hid (Filled w1 wo w1.heap.size m m (fun j => (.iface 83 (.pointer (some ⟨w1.heap.size + 1 + j, 0, none⟩)))) (fun j => .string (ss.getD j ByteArray.empty))) := hF
            have hsz : w1.heap.size < wo.heap.size := by have := hF.size; omega
            clear hF
            go_wp2_with (go_at_call 10; go_in)
            have c2r := (HF.out.below.cell (p := ⟨w.heap.size, 2, none⟩) hL.size).trans hL.c2
            refine Calls.mono (visitS_all_0 _ _ (wo.heap.size + 1 + 1) (wo.heap.size + 1) w.heap.size wo.heap.size w1.heap.size m (w1.heap.size + 1) (ss.take m) ?hr ?ho ?hl ?ha ?hee ?hp ?hro ?hra ?hre ?hrl ?cr ?fr ?o0 ?o1 ?o2 ?c11 ?c12 ?c13 ?ca ?c2 ?hn ?hn2 ?hz ?hw ?hI ?hV) ?_
            case hr => go_size
            case ho => go_size
            case hl => go_size
            case ha => go_size
            case hee => go_size
            case hp => have := HF.out.size; go_size
            case hro => omega
            case hra => omega
            case hre => omega
            case hrl => omega
            case cr => go_cell
            case fr => simp only [frz]; exact frz_none _ _ _ (by omega)
            case o0 => go_cell
            case o1 => go_cell
            case o2 => go_cell
            case c11 => go_cell
            case c12 => go_cell
            case c13 => go_cell
            case ca => go_cell
            case c2 => exact cell_later (w := wo) (by go_grown) c2r
            case hn => omega
            case hn2 => omega
            case hz => have := hz.out; show (ss.take m).length = m; simp; omega
            case hw => exact fun j hj => by have h := hw.out j hj; simpa [List.getD, List.getElem?_take, hj] using h
            case hI => exact fun j hj => cell_later (w := wo) (by go_grown) (HF.out.done j hj)
            case hV =>
              intro j hj
              refine cell_later (w := wo) (by go_grown) ?_
              have h := HF.out.vals j hj
              simpa [List.getD, List.getElem?_take, hj] using h
            rintro ex w2 ⟨rfl, hm, hset⟩
            have HC : Hid (∀ j, j < m → w2.cell? ⟨b, off + j, none⟩ = some (.string (ss.getD j ByteArray.empty))) := fun j hj => hm.get (by go_size) (by unfold TR; omega) (cell_later (w := wo) (by go_grown) ((HF.out.below.cell (p := ⟨b, off + j, none⟩) hbw).trans (hcw.out j hj)))
            have hs2 : wo.heap.size + 1 + 1 + 1 ≤ w2.heap.size := by have := hm.size; simp at this; omega
            have HB : Hid (Below w.heap.size w w2) := ((hL.below.trans (HF.out.below.mono (by have := hL.size; omega))).trans (by have := hL.size; go_grown)).trans (hm.below _ (by have := hL.size; go_size) (fun k o t => by unfold TR at t; omega))
            clear hm c2r hcw hc HF
            obtain ⟨bn, mn, qn, g0, g11, g12, g13, gm, gown⟩ := hset
            rw [setS_take] at gown
            have hq : qn < w2.heap.size := by
              obtain ⟨es, c, hb', _⟩ := gown
              exact (Array.getElem?_eq_some_iff.1 hb').1
            have hb2 : b < w2.heap.size := by omega
            have hlen := gown.len Tryz.underlying86 3
            go_wp2_with (first | (go_at_call 15; (with_reducible refine (distinctS w2.heap.size b off m cap ss _ hn hz HC hb2).mono ?_); rintro e w3 ⟨rfl, hb3⟩))
            go_loopw [28] (fun i wx => ∃ j : Nat, j ≤ m ∧ i = .int .i64 j ∧ Below w2.heap.size w2 wx) (fun i _ => m - (intOf i).toNat)
            case atStart => exact ⟨0, Nat.zero_le _, rfl, hb3⟩
            case round =>
              obtain ⟨j, hj, rfl, hbx⟩ := hrel
              by_cases hjm : j < m
              · have eC := (hbx.cell (p := ⟨b, off + j, none⟩) hb2).trans (HC.out j hjm)
                have own2 := ownsMap_moved gown (hbx.block qn hq)
                have hkey := Lib.hid (Go.WideMaps.keyOf_string_mk Tryz.underlying9 (hw.out j hjm))
                have hh : Maps.has (setS ss m) (.string (ss.getD j ByteArray.empty).data.toList) = true := by
                  rw [has_setS, List.any_eq_true]
                  have hl : j < ss.length := by have := hz.out; omega
                  exact ⟨ss.getD j ByteArray.empty, by rw [List.getD, List.getElem?_eq_getElem hl]; exact List.mem_take_iff_getElem.2 ⟨j, by omega, rfl⟩, by simp⟩
                have hh2 : Maps.has (setS ss m) (.string (ss[j]?.getD ByteArray.empty).data.toList) = true := hh
                go_wp2_with (at_lookup; refine wpList_lookup_own_unit _ rfl _ _ 86 rfl 9 79 lawS Tryz.underlying86 (zeroU _) qn m _ rfl own2 _ _ rfl hkey.out ?_)
                exact ⟨⟨j + 1, by omega, by go_num, hbx.alloc hbx.size _⟩, by simp [intOf]; omega⟩
              · obtain rfl : j = m := by omega
                go_wp2
                go_ret
                exact ⟨rfl, HB.out.trans (hbx.mono (by omega))⟩
  · have hsp0 : 0 ≤ sp := by omega
    have hd : decide (sp < (n : Int)) = false := by simpa using hsp
    go_enter Tryz.func4, Tryz.ntmps4
    go_wp2_with fail
    refine (zbS_any _ _ _ _ ss _ _ _ (by omega) hc).mono ?_
    rintro e w1 ⟨r, rfl, rfl⟩
    cases r
    · go_wp2
      go_ret
      exact ⟨rfl, Below.refl _ _⟩
    go_wp2
    go_loop [7, 8] (fun t i => ∃ (m : Nat) (x : Int), m ≤ n ∧ i = .int .i64 m ∧ t = .int .i64 x) (fun _ i => n - (intOf i).toNat)
    case atStart => exact ⟨0, _, Nat.zero_le _, rfl, rfl⟩
    case round =>
      obtain ⟨mt, x, hmt, rfl, rfl⟩ := hrel
      by_cases hmtn : mt < n
      · have ck := hc.out mt hmtn
        go_wp2
        exact ⟨⟨mt + 1, _, by omega, by go_num, rfl⟩, by simp [intOf]; omega⟩
      · obtain rfl : n = mt := by omega
        clear hmt hmtn
        by_cases hx : 1048576 < x
        · go_wp2
          go_ret
          exact ⟨rfl, Below.refl _ _⟩
        go_wp2_with (first | (go_at_call 8; (with_reducible refine (zmod_any _ _ h1 h2).mono ?_); rintro e w1 ⟨rfl, rfl⟩; rw [hk.out]) | (go_at_call 9; (with_reducible refine (typedLeft_0m _).mono ?_); rintro e w1 ⟨rfl, hL⟩))
        have hww : w.heap.size < w1.heap.size := hL.size
        have hbw : b < w1.heap.size := by have := hL.size; omega
        have hcw : Hid (∀ j, j < n → w1.cell? ⟨b, off + j, none⟩ = some (.string (ss.getD j ByteArray.empty))) := fun j hj => (hL.below.cell (p := ⟨b, off + j, none⟩) hb).trans (hc.out j hj)
        go_loopw [13] (fun i wr => ∃ m : Nat, m ≤ n ∧ i = .int .i64 m ∧ Filled w1 wr w1.heap.size n m (fun j => (.iface 83 (.pointer (some ⟨w1.heap.size + 1 + j, 0, none⟩)))) (fun j => .string (ss.getD j ByteArray.empty))) (fun i _ => n - (intOf i).toNat)
        case atStart => exact ⟨0, Nat.zero_le _, rfl, filled_start _ _ _ _⟩
        case round =>
          obtain ⟨m, hm, rfl, hF⟩ := hrel
          by_cases hmn : m < n
          · have ck := (hF.below.cell (p := ⟨b, off + m, none⟩) hbw).trans (hcw.out m hmn)
            have cE := hF.rest m (Nat.le_refl _) hmn
            have fE : wr.frozen? ⟨w1.heap.size, m, none⟩ = false := by
              rw [hF.free]; simp [World.frozen?]
            have hsz : w1.heap.size < wr.heap.size := by have := hF.size; omega
            have HF : Hid (Filled w1 wr w1.heap.size n m (fun j => (.iface 83 (.pointer (some ⟨w1.heap.size + 1 + j, 0, none⟩)))) (fun j => .string (ss.getD j ByteArray.empty))) := hF
            clear hF
            go_wp2
            refine ⟨⟨m + 1, by omega, by go_num, ?_⟩, by simp [intOf]; omega⟩
            rw [HF.out.size]
            exact filled_step HF.out hmn _ _ (by simp [List.getD])
          · obtain rfl : m = n := by omega
            obtain ⟨wo, rfl⟩ : ∃ wo : World, wo = wr := ⟨_, rfl⟩
            have HF : Hid (Filled w1 wo w1.heap.size m m (fun j => (.iface 83 (.pointer (some ⟨w1.heap.size + 1 + j, 0, none⟩)))) (fun j => .string (ss.getD j ByteArray.empty))) := hF
            have hsz : w1.heap.size < wo.heap.size := by have := hF.size; omega
            clear hF
            go_wp2_with (go_at_call 10; go_in)
            have c2r := (HF.out.below.cell (p := ⟨w.heap.size, 2, none⟩) hL.size).trans hL.c2
            refine Calls.mono (visitS_all_0 _ _ (wo.heap.size + 1 + 1) (wo.heap.size + 1) w.heap.size wo.heap.size w1.heap.size m (w1.heap.size + 1) (ss.take m) ?hr ?ho ?hl ?ha ?hee ?hp ?hro ?hra ?hre ?hrl ?cr ?fr ?o0 ?o1 ?o2 ?c11 ?c12 ?c13 ?ca ?c2 ?hn ?hn2 ?hz ?hw ?hI ?hV) ?_
            case hr => go_size
            case ho => go_size
            case hl => go_size
            case ha => go_size
            case hee => go_size
            case hp => have := HF.out.size; go_size
            case hro => omega
            case hra => omega
            case hre => omega
            case hrl => omega
            case cr => go_cell
            case fr => simp only [frz]; exact frz_none _ _ _ (by omega)
            case o0 => go_cell
            case o1 => go_cell
            case o2 => go_cell
            case c11 => go_cell
            case c12 => go_cell
            case c13 => go_cell
            case ca => go_cell
            case c2 => exact cell_later (w := wo) (by go_grown) c2r
            case hn => omega
            case hn2 => omega
            case hz => have := hz.out; show (ss.take m).length = m; simp; omega
            case hw => exact fun j hj => by have h := hw.out j hj; simpa [List.getD, List.getElem?_take, hj] using h
            case hI => exact fun j hj => cell_later (w := wo) (by go_grown) (HF.out.done j hj)
            case hV =>
              intro j hj
              refine cell_later (w := wo) (by go_grown) ?_
              have h := HF.out.vals j hj
              simpa [List.getD, List.getElem?_take, hj] using h
            rintro ex w2 ⟨rfl, hm, hset⟩
            have HC : Hid (∀ j, j < m → w2.cell? ⟨b, off + j, none⟩ = some (.string (ss.getD j ByteArray.empty))) := fun j hj => hm.get (by go_size) (by unfold TR; omega) (cell_later (w := wo) (by go_grown) ((HF.out.below.cell (p := ⟨b, off + j, none⟩) hbw).trans (hcw.out j hj)))
            have hs2 : wo.heap.size + 1 + 1 + 1 ≤ w2.heap.size := by have := hm.size; simp at this; omega
            have HB : Hid (Below w.heap.size w w2) := ((hL.below.trans (HF.out.below.mono (by have := hL.size; omega))).trans (by have := hL.size; go_grown)).trans (hm.below _ (by have := hL.size; go_size) (fun k o t => by unfold TR at t; omega))
            clear hm c2r hcw hc HF
            obtain ⟨bn, mn, qn, g0, g11, g12, g13, gm, gown⟩ := hset
            rw [setS_take] at gown
            have hq : qn < w2.heap.size := by
              obtain ⟨es, c, hb', _⟩ := gown
              exact (Array.getElem?_eq_some_iff.1 hb').1
            have hb2 : b < w2.heap.size := by omega
            have hlen := gown.len Tryz.underlying86 3
            go_wp2_with (first | (go_at_call 15; (with_reducible refine (distinctS w2.heap.size b off m cap ss _ hn hz HC hb2).mono ?_); rintro e w3 ⟨rfl, hb3⟩))
            go_loopw [28] (fun i wx => ∃ j : Nat, j ≤ m ∧ i = .int .i64 j ∧ Below w2.heap.size w2 wx) (fun i _ => m - (intOf i).toNat)
            case atStart => exact ⟨0, Nat.zero_le _, rfl, hb3⟩
            case round =>
              obtain ⟨j, hj, rfl, hbx⟩ := hrel
              by_cases hjm : j < m
              · have eC := (hbx.cell (p := ⟨b, off + j, none⟩) hb2).trans (HC.out j hjm)
                have own2 := ownsMap_moved gown (hbx.block qn hq)
                have hkey := Lib.hid (Go.WideMaps.keyOf_string_mk Tryz.underlying9 (hw.out j hjm))
                have hh : Maps.has (setS ss m) (.string (ss.getD j ByteArray.empty).data.toList) = true := by
                  rw [has_setS, List.any_eq_true]
                  have hl : j < ss.length := by have := hz.out; omega
                  exact ⟨ss.getD j ByteArray.empty, by rw [List.getD, List.getElem?_eq_getElem hl]; exact List.mem_take_iff_getElem.2 ⟨j, by omega, rfl⟩, by simp⟩
                have hh2 : Maps.has (setS ss m) (.string (ss[j]?.getD ByteArray.empty).data.toList) = true := hh
                go_wp2_with (at_lookup; refine wpList_lookup_own_unit _ rfl _ _ 86 rfl 9 79 lawS Tryz.underlying86 (zeroU _) qn m _ rfl own2 _ _ rfl hkey.out ?_)
                exact ⟨⟨j + 1, by omega, by go_num, hbx.alloc hbx.size _⟩, by simp [intOf]; omega⟩
              · obtain rfl : j = m := by omega
                go_wp2
                go_ret
                exact ⟨rfl, HB.out.trans (hbx.mono (by omega))⟩

set_option maxRecDepth 100000 in
set_option maxHeartbeats 4000000 in
theorem lawS_1_n (b off n cap : Nat) (ss : List ByteArray) (k : Int) (sp : Int) (hsp : sp < 0 ∨ (n : Int) ≤ sp) (w : World) (hk : Hid (zm k = 1)) (h1 : -128 ≤ k) (h2 : k ≤ 127) (hn0 : 0 < n) (hn : n ≤ 4096) (hz : Hid (n ≤ ss.length)) (hb : b < w.heap.size) (hw : Hid (∀ j, j < n → (ss.getD j ByteArray.empty).size ≤ maxLen)) (hc : Hid (∀ j, j < n → w.cell? ⟨b, off + j, none⟩ = some (.string (ss.getD j ByteArray.empty)))) :
    Calls Tryz.prog 4 #[.slice (some ⟨b, off, none⟩) n cap, .int .i8 k, .int .i64 sp] w fun e w' => e = .returned (.bool true) ∧ Below w.heap.size w w' := by
  have q1 := ta_BB
  have q2 := ta_AA
  have q3 := ta_DD
  have q5 := ta_CC
  have q6 := ta_CA
  have q7 : ∀ (v : Value) (w : World), (Instr.typeAssert (.iface 86 v) 20 86 true).run Tryz.prog w = .ok (.tuple #[v, .bool true]) w := fun v w => by kernel_rfl
  have q8 : ∀ (a : Addr) (w : World), (binOp .neq 39 (.pointer (some a)) (.pointer (some a))).run Tryz.prog w = .ok (.bool false) w := fun a w => ptr_neq_same a Tryz.underlying39 (by kernel_rfl) w
  have q9 : ∀ (a : Addr) (w : World), (binOp .neq 63 (.pointer (some a)) (.pointer (some a))).run Tryz.prog w = .ok (.bool false) w := fun a w => ptr_neq_same a Tryz.underlying63 (by kernel_rfl) w
  have q10 : ∀ (a : Addr) (w : World), (binOp .neq 60 (.pointer (some a)) (.pointer (some a))).run Tryz.prog w = .ok (.bool false) w := fun a w => ptr_neq_same a Tryz.underlying60 (by kernel_rfl) w
  have hmk := madeNodes n hn
  rcases hsp with hsp | hsp
  · go_enter Tryz.func4, Tryz.ntmps4
    go_wp2_with fail
    refine (zbS_any _ _ _ _ ss _ _ _ (by omega) hc).mono ?_
    rintro e w1 ⟨r, rfl, rfl⟩
    cases r
    · go_wp2
      go_ret
      exact ⟨rfl, Below.refl _ _⟩
    go_wp2
    go_loop [7, 8] (fun t i => ∃ (m : Nat) (x : Int), m ≤ n ∧ i = .int .i64 m ∧ t = .int .i64 x) (fun _ i => n - (intOf i).toNat)
    case atStart => exact ⟨0, _, Nat.zero_le _, rfl, rfl⟩
    case round =>
      obtain ⟨mt, x, hmt, rfl, rfl⟩ := hrel
      by_cases hmtn : mt < n
      · have ck := hc.out mt hmtn
        go_wp2
        exact ⟨⟨mt + 1, _, by omega, by go_num, rfl⟩, by simp [intOf]; omega⟩
      · obtain rfl : n = mt := by omega
        clear hmt hmtn
        by_cases hx : 1048576 < x
        · go_wp2
          go_ret
          exact ⟨rfl, Below.refl _ _⟩
        go_wp2_with (first | (go_at_call 8; (with_reducible refine (zmod_any _ _ h1 h2).mono ?_); rintro e w1 ⟨rfl, rfl⟩; rw [hk.out]) | (go_at_call 9; (with_reducible refine (typedLeft_1m _).mono ?_); rintro e w1 ⟨rfl, hL⟩))
        have hww : w.heap.size < w1.heap.size := hL.size
        have hbw : b < w1.heap.size := by have := hL.size; omega
        have hcw : Hid (∀ j, j < n → w1.cell? ⟨b, off + j, none⟩ = some (.string (ss.getD j ByteArray.empty))) := fun j hj => (hL.below.cell (p := ⟨b, off + j, none⟩) hb).trans (hc.out j hj)
        go_loopw [13] (fun i wr => ∃ m : Nat, m ≤ n ∧ i = .int .i64 m ∧ Filled w1 wr w1.heap.size n m (fun j => (.iface 83 (.pointer (some ⟨w1.heap.size + 1 + j, 0, none⟩)))) (fun j => .string (ss.getD j ByteArray.empty))) (fun i _ => n - (intOf i).toNat)
        case atStart => exact ⟨0, Nat.zero_le _, rfl, filled_start _ _ _ _⟩
        case round =>
          obtain ⟨m, hm, rfl, hF⟩ := hrel
          by_cases hmn : m < n
          · have ck := (hF.below.cell (p := ⟨b, off + m, none⟩) hbw).trans (hcw.out m hmn)
            have cE := hF.rest m (Nat.le_refl _) hmn
            have fE : wr.frozen? ⟨w1.heap.size, m, none⟩ = false := by
              rw [hF.free]; simp [World.frozen?]
            have hsz : w1.heap.size < wr.heap.size := by have := hF.size; omega
            have HF : Hid (Filled w1 wr w1.heap.size n m (fun j => (.iface 83 (.pointer (some ⟨w1.heap.size + 1 + j, 0, none⟩)))) (fun j => .string (ss.getD j ByteArray.empty))) := hF
            clear hF
            go_wp2
            refine ⟨⟨m + 1, by omega, by go_num, ?_⟩, by simp [intOf]; omega⟩
            rw [HF.out.size]
            exact filled_step HF.out hmn _ _ (by simp [List.getD])
          · obtain rfl : m = n := by omega
            obtain ⟨wo, rfl⟩ : ∃ wo : World, wo = wr := ⟨_, rfl⟩
            have HF : Hid (Filled w1 wo w1.heap.size m m (fun j => (.iface 83 (.pointer (some ⟨w1.heap.size + 1 + j, 0, none⟩)))) (fun j => .string (ss.getD j ByteArray.empty))) := hF
            have hsz : w1.heap.size < wo.heap.size := by have := hF.size; omega
            clear hF
            go_wp2_with (go_at_call 10; go_in)
            have c2r := (HF.out.below.cell (p := ⟨w.heap.size, 2, none⟩) hL.size).trans hL.c2
            refine Calls.mono (visitS_all_1 _ _ (wo.heap.size + 1 + 1) (wo.heap.size + 1) w.heap.size wo.heap.size w1.heap.size m (w1.heap.size + 1) (ss.take m) ?hr ?ho ?hl ?ha ?hee ?hp ?hro ?hra ?hre ?hrl ?cr ?fr ?o0 ?o1 ?o2 ?c11 ?c12 ?c13 ?ca ?c2 ?hn ?hn2 ?hz ?hw ?hI ?hV) ?_
            case hr => go_size
            case ho => go_size
            case hl => go_size
            case ha => go_size
            case hee => go_size
            case hp => have := HF.out.size; go_size
            case hro => omega
            case hra => omega
            case hre => omega
            case hrl => omega
            case cr => go_cell
            case fr => simp only [frz]; exact frz_none _ _ _ (by omega)
            case o0 => go_cell
            case o1 => go_cell
            case o2 => go_cell
            case c11 => go_cell
            case c12 => go_cell
            case c13 => go_cell
            case ca => go_cell
            case c2 => exact cell_later (w := wo) (by go_grown) c2r
            case hn => omega
            case hn2 => omega
            case hz => have := hz.out; show (ss.take m).length = m; simp; omega
            case hw => exact fun j hj => by have h := hw.out j hj; simpa [List.getD, List.getElem?_take, hj] using h
            case hI => exact fun j hj => cell_later (w := wo) (by go_grown) (HF.out.done j hj)
            case hV =>
              intro j hj
              refine cell_later (w := wo) (by go_grown) ?_
              have h := HF.out.vals j hj
              simpa [List.getD, List.getElem?_take, hj] using h
            rintro ex w2 ⟨rfl, hm, hset⟩
            have HC : Hid (∀ j, j < m → w2.cell? ⟨b, off + j, none⟩ = some (.string (ss.getD j ByteArray.empty))) := fun j hj => hm.get (by go_size) (by unfold TR; omega) (cell_later (w := wo) (by go_grown) ((HF.out.below.cell (p := ⟨b, off + j, none⟩) hbw).trans (hcw.out j hj)))
            have hs2 : wo.heap.size + 1 + 1 + 1 ≤ w2.heap.size := by have := hm.size; simp at this; omega
            have HB : Hid (Below w.heap.size w w2) := ((hL.below.trans (HF.out.below.mono (by have := hL.size; omega))).trans (by have := hL.size; go_grown)).trans (hm.below _ (by have := hL.size; go_size) (fun k o t => by unfold TR at t; omega))
            clear hm c2r hcw hc HF
            obtain ⟨bn, mn, qn, g0, g11, g12, g13, gm, gown⟩ := hset
            rw [setS_take] at gown
            have hq : qn < w2.heap.size := by
              obtain ⟨es, c, hb', _⟩ := gown
              exact (Array.getElem?_eq_some_iff.1 hb').1
            have hb2 : b < w2.heap.size := by omega
            have hlen := gown.len Tryz.underlying86 3
            go_wp2_with (first | (go_at_call 15; (with_reducible refine (distinctS w2.heap.size b off m cap ss _ hn hz HC hb2).mono ?_); rintro e w3 ⟨rfl, hb3⟩))
            go_loopw [28] (fun i wx => ∃ j : Nat, j ≤ m ∧ i = .int .i64 j ∧ Below w2.heap.size w2 wx) (fun i _ => m - (intOf i).toNat)
            case atStart => exact ⟨0, Nat.zero_le _, rfl, hb3⟩
            case round =>
              obtain ⟨j, hj, rfl, hbx⟩ := hrel
              by_cases hjm : j < m
              · have eC := (hbx.cell (p := ⟨b, off + j, none⟩) hb2).trans (HC.out j hjm)
                have own2 := ownsMap_moved gown (hbx.block qn hq)
                have hkey := Lib.hid (Go.WideMaps.keyOf_string_mk Tryz.underlying9 (hw.out j hjm))
                have hh : Maps.has (setS ss m) (.string (ss.getD j ByteArray.empty).data.toList) = true := by
                  rw [has_setS, List.any_eq_true]
                  have hl : j < ss.length := by have := hz.out; omega
                  exact ⟨ss.getD j ByteArray.empty, by rw [List.getD, List.getElem?_eq_getElem hl]; exact List.mem_take_iff_getElem.2 ⟨j, by omega, rfl⟩, by simp⟩
                have hh2 : Maps.has (setS ss m) (.string (ss[j]?.getD ByteArray.empty).data.toList) = true := hh
                go_wp2_with (at_lookup; refine wpList_lookup_own_unit _ rfl _ _ 86 rfl 9 79 lawS Tryz.underlying86 (zeroU _) qn m _ rfl own2 _ _ rfl hkey.out ?_)
                exact ⟨⟨j + 1, by omega, by go_num, hbx.alloc hbx.size _⟩, by simp [intOf]; omega⟩
              · obtain rfl : j = m := by omega
                go_wp2
                go_ret
                exact ⟨rfl, HB.out.trans (hbx.mono (by omega))⟩
  · have hsp0 : 0 ≤ sp := by omega
    have hd : decide (sp < (n : Int)) = false := by simpa using hsp
    go_enter Tryz.func4, Tryz.ntmps4
    go_wp2_with fail
    refine (zbS_any _ _ _ _ ss _ _ _ (by omega) hc).mono ?_
    rintro e w1 ⟨r, rfl, rfl⟩
    cases r
    · go_wp2
      go_ret
      exact ⟨rfl, Below.refl _ _⟩
    go_wp2
    go_loop [7, 8] (fun t i => ∃ (m : Nat) (x : Int), m ≤ n ∧ i = .int .i64 m ∧ t = .int .i64 x) (fun _ i => n - (intOf i).toNat)
    case atStart => exact ⟨0, _, Nat.zero_le _, rfl, rfl⟩
    case round =>
      obtain ⟨mt, x, hmt, rfl, rfl⟩ := hrel
      by_cases hmtn : mt < n
      · have ck := hc.out mt hmtn
        go_wp2
        exact ⟨⟨mt + 1, _, by omega, by go_num, rfl⟩, by simp [intOf]; omega⟩
      · obtain rfl : n = mt := by omega
        clear hmt hmtn
        by_cases hx : 1048576 < x
        · go_wp2
          go_ret
          exact ⟨rfl, Below.refl _ _⟩
        go_wp2_with (first | (go_at_call 8; (with_reducible refine (zmod_any _ _ h1 h2).mono ?_); rintro e w1 ⟨rfl, rfl⟩; rw [hk.out]) | (go_at_call 9; (with_reducible refine (typedLeft_1m _).mono ?_); rintro e w1 ⟨rfl, hL⟩))
        have hww : w.heap.size < w1.heap.size := hL.size
        have hbw : b < w1.heap.size := by have := hL.size; omega
        have hcw : Hid (∀ j, j < n → w1.cell? ⟨b, off + j, none⟩ = some (.string (ss.getD j ByteArray.empty))) := fun j hj => (hL.below.cell (p := ⟨b, off + j, none⟩) hb).trans (hc.out j hj)
        go_loopw [13] (fun i wr => ∃ m : Nat, m ≤ n ∧ i = .int .i64 m ∧ Filled w1 wr w1.heap.size n m (fun j => (.iface 83 (.pointer (some ⟨w1.heap.size + 1 + j, 0, none⟩)))) (fun j => .string (ss.getD j ByteArray.empty))) (fun i _ => n - (intOf i).toNat)
        case atStart => exact ⟨0, Nat.zero_le _, rfl, filled_start _ _ _ _⟩
        case round =>
          obtain ⟨m, hm, rfl, hF⟩ := hrel
          by_cases hmn : m < n
          · have ck := (hF.below.cell (p := ⟨b, off + m, none⟩) hbw).trans (hcw.out m hmn)
            have cE := hF.rest m (Nat.le_refl _) hmn
            have fE : wr.frozen? ⟨w1.heap.size, m, none⟩ = false := by
              rw [hF.free]; simp [World.frozen?]
            have hsz : w1.heap.size < wr.heap.size := by have := hF.size; omega
            have HF : Hid (Filled w1 wr w1.heap.size n m (fun j => (.iface 83 (.pointer (some ⟨w1.heap.size + 1 + j, 0, none⟩)))) (fun j => .string (ss.getD j ByteArray.empty))) := hF
            clear hF
            go_wp2
            refine ⟨⟨m + 1, by omega, by go_num, ?_⟩, by simp [intOf]; omega⟩
            rw [HF.out.size]
            exact filled_step HF.out hmn _ _ (by simp [List.getD])
          · obtain rfl : m = n := by omega
            obtain ⟨wo, rfl⟩ : ∃ wo : World, wo = wr := ⟨_, rfl⟩
            have HF : Hid (Filled w1 wo w1.heap.size m m (fun j => (.iface 83 (.pointer (some ⟨w1.heap.size + 1 + j, 0, none⟩)))) (fun j => .string (ss.getD j ByteArray.empty))) := hF
            have hsz : w1.heap.size < wo.heap.size := by have := hF.size; omega
            clear hF
            go_wp2_with (go_at_call 10; go_in)
            have c2r := (HF.out.below.cell (p := ⟨w.heap.size, 2, none⟩) hL.size).trans hL.c2
            refine Calls.mono (visitS_all_1 _ _ (wo.heap.size + 1 + 1) (wo.heap.size + 1) w.heap.size wo.heap.size w1.heap.size m (w1.heap.size + 1) (ss.take m) ?hr ?ho ?hl ?ha ?hee ?hp ?hro ?hra ?hre ?hrl ?cr ?fr ?o0 ?o1 ?o2 ?c11 ?c12 ?c13 ?ca ?c2 ?hn ?hn2 ?hz ?hw ?hI ?hV) ?_
            case hr => go_size
            case ho => go_size
            case hl => go_size
            case ha => go_size
            case hee => go_size
            case hp => have := HF.out.size; go_size
            case hro => omega
            case hra => omega
            case hre => omega
            case hrl => omega
            case cr => go_cell
            case fr => simp only [frz]; exact frz_none _ _ _ (by omega)
            case o0 => go_cell
            case o1 => go_cell
            case o2 => go_cell
            case c11 => go_cell
            case c12 => go_cell
            case c13 => go_cell
            case ca => go_cell
            case c2 => exact cell_later (w := wo) (by go_grown) c2r
            case hn => omega
            case hn2 => omega
            case hz => have := hz.out; show (ss.take m).length = m; simp; omega
            case hw => exact fun j hj => by have h := hw.out j hj; simpa [List.getD, List.getElem?_take, hj] using h
            case hI => exact fun j hj => cell_later (w := wo) (by go_grown) (HF.out.done j hj)
            case hV =>
              intro j hj
              refine cell_later (w := wo) (by go_grown) ?_
              have h := HF.out.vals j hj
              simpa [List.getD, List.getElem?_take, hj] using h
            rintro ex w2 ⟨rfl, hm, hset⟩
            have HC : Hid (∀ j, j < m → w2.cell? ⟨b, off + j, none⟩ = some (.string (ss.getD j ByteArray.empty))) := fun j hj => hm.get (by go_size) (by unfold TR; omega) (cell_later (w := wo) (by go_grown) ((HF.out.below.cell (p := ⟨b, off + j, none⟩) hbw).trans (hcw.out j hj)))
            have hs2 : wo.heap.size + 1 + 1 + 1 ≤ w2.heap.size := by have := hm.size; simp at this; omega
            have HB : Hid (Below w.heap.size w w2) := ((hL.below.trans (HF.out.below.mono (by have := hL.size; omega))).trans (by have := hL.size; go_grown)).trans (hm.below _ (by have := hL.size; go_size) (fun k o t => by unfold TR at t; omega))
            clear hm c2r hcw hc HF
            obtain ⟨bn, mn, qn, g0, g11, g12, g13, gm, gown⟩ := hset
            rw [setS_take] at gown
            have hq : qn < w2.heap.size := by
              obtain ⟨es, c, hb', _⟩ := gown
              exact (Array.getElem?_eq_some_iff.1 hb').1
            have hb2 : b < w2.heap.size := by omega
            have hlen := gown.len Tryz.underlying86 3
            go_wp2_with (first | (go_at_call 15; (with_reducible refine (distinctS w2.heap.size b off m cap ss _ hn hz HC hb2).mono ?_); rintro e w3 ⟨rfl, hb3⟩))
            go_loopw [28] (fun i wx => ∃ j : Nat, j ≤ m ∧ i = .int .i64 j ∧ Below w2.heap.size w2 wx) (fun i _ => m - (intOf i).toNat)
            case atStart => exact ⟨0, Nat.zero_le _, rfl, hb3⟩
            case round =>
              obtain ⟨j, hj, rfl, hbx⟩ := hrel
              by_cases hjm : j < m
              · have eC := (hbx.cell (p := ⟨b, off + j, none⟩) hb2).trans (HC.out j hjm)
                have own2 := ownsMap_moved gown (hbx.block qn hq)
                have hkey := Lib.hid (Go.WideMaps.keyOf_string_mk Tryz.underlying9 (hw.out j hjm))
                have hh : Maps.has (setS ss m) (.string (ss.getD j ByteArray.empty).data.toList) = true := by
                  rw [has_setS, List.any_eq_true]
                  have hl : j < ss.length := by have := hz.out; omega
                  exact ⟨ss.getD j ByteArray.empty, by rw [List.getD, List.getElem?_eq_getElem hl]; exact List.mem_take_iff_getElem.2 ⟨j, by omega, rfl⟩, by simp⟩
                have hh2 : Maps.has (setS ss m) (.string (ss[j]?.getD ByteArray.empty).data.toList) = true := hh
                go_wp2_with (at_lookup; refine wpList_lookup_own_unit _ rfl _ _ 86 rfl 9 79 lawS Tryz.underlying86 (zeroU _) qn m _ rfl own2 _ _ rfl hkey.out ?_)
                exact ⟨⟨j + 1, by omega, by go_num, hbx.alloc hbx.size _⟩, by simp [intOf]; omega⟩
              · obtain rfl : j = m := by omega
                go_wp2
                go_ret
                exact ⟨rfl, HB.out.trans (hbx.mono (by omega))⟩

set_option maxRecDepth 100000 in
set_option maxHeartbeats 4000000 in
theorem lawS_2_n (b off n cap : Nat) (ss : List ByteArray) (k : Int) (sp : Int) (hsp : sp < 0 ∨ (n : Int) ≤ sp) (w : World) (hk : Hid (zm k = 2)) (h1 : -128 ≤ k) (h2 : k ≤ 127) (hn0 : 0 < n) (hn : n ≤ 4096) (hz : Hid (n ≤ ss.length)) (hb : b < w.heap.size) (hw : Hid (∀ j, j < n → (ss.getD j ByteArray.empty).size ≤ maxLen)) (hc : Hid (∀ j, j < n → w.cell? ⟨b, off + j, none⟩ = some (.string (ss.getD j ByteArray.empty)))) :
    Calls Tryz.prog 4 #[.slice (some ⟨b, off, none⟩) n cap, .int .i8 k, .int .i64 sp] w fun e w' => e = .returned (.bool true) ∧ Below w.heap.size w w' := by
  have q1 := ta_BB
  have q2 := ta_AA
  have q3 := ta_DD
  have q5 := ta_CC
  have q6 := ta_CA
  have q7 : ∀ (v : Value) (w : World), (Instr.typeAssert (.iface 86 v) 20 86 true).run Tryz.prog w = .ok (.tuple #[v, .bool true]) w := fun v w => by kernel_rfl
  have q8 : ∀ (a : Addr) (w : World), (binOp .neq 39 (.pointer (some a)) (.pointer (some a))).run Tryz.prog w = .ok (.bool false) w := fun a w => ptr_neq_same a Tryz.underlying39 (by kernel_rfl) w
  have q9 : ∀ (a : Addr) (w : World), (binOp .neq 63 (.pointer (some a)) (.pointer (some a))).run Tryz.prog w = .ok (.bool false) w := fun a w => ptr_neq_same a Tryz.underlying63 (by kernel_rfl) w
  have q10 : ∀ (a : Addr) (w : World), (binOp .neq 60 (.pointer (some a)) (.pointer (some a))).run Tryz.prog w = .ok (.bool false) w := fun a w => ptr_neq_same a Tryz.underlying60 (by kernel_rfl) w
  have hmk := madeNodes n hn
  rcases hsp with hsp | hsp
  · go_enter Tryz.func4, Tryz.ntmps4
    go_wp2_with fail
    refine (zbS_any _ _ _ _ ss _ _ _ (by omega) hc).mono ?_
    rintro e w1 ⟨r, rfl, rfl⟩
    cases r
    · go_wp2
      go_ret
      exact ⟨rfl, Below.refl _ _⟩
    go_wp2
    go_loop [7, 8] (fun t i => ∃ (m : Nat) (x : Int), m ≤ n ∧ i = .int .i64 m ∧ t = .int .i64 x) (fun _ i => n - (intOf i).toNat)
    case atStart => exact ⟨0, _, Nat.zero_le _, rfl, rfl⟩
    case round =>
      obtain ⟨mt, x, hmt, rfl, rfl⟩ := hrel
      by_cases hmtn : mt < n
      · have ck := hc.out mt hmtn
        go_wp2
        exact ⟨⟨mt + 1, _, by omega, by go_num, rfl⟩, by simp [intOf]; omega⟩
      · obtain rfl : n = mt := by omega
        clear hmt hmtn
        by_cases hx : 1048576 < x
        · go_wp2
          go_ret
          exact ⟨rfl, Below.refl _ _⟩
        go_wp2_with (first | (go_at_call 8; (with_reducible refine (zmod_any _ _ h1 h2).mono ?_); rintro e w1 ⟨rfl, rfl⟩; rw [hk.out]) | (go_at_call 9; (with_reducible refine (typedLeft_2m _).mono ?_); rintro e w1 ⟨rfl, hL⟩))
        have hww : w.heap.size < w1.heap.size := hL.size
        have hbw : b < w1.heap.size := by have := hL.size; omega
        have hcw : Hid (∀ j, j < n → w1.cell? ⟨b, off + j, none⟩ = some (.string (ss.getD j ByteArray.empty))) := fun j hj => (hL.below.cell (p := ⟨b, off + j, none⟩) hb).trans (hc.out j hj)
        go_loopw [13] (fun i wr => ∃ m : Nat, m ≤ n ∧ i = .int .i64 m ∧ Filled w1 wr w1.heap.size n m (fun j => (.iface 83 (.pointer (some ⟨w1.heap.size + 1 + j, 0, none⟩)))) (fun j => .string (ss.getD j ByteArray.empty))) (fun i _ => n - (intOf i).toNat)
        case atStart => exact ⟨0, Nat.zero_le _, rfl, filled_start _ _ _ _⟩
        case round =>
          obtain ⟨m, hm, rfl, hF⟩ := hrel
          by_cases hmn : m < n
          · have ck := (hF.below.cell (p := ⟨b, off + m, none⟩) hbw).trans (hcw.out m hmn)
            have cE := hF.rest m (Nat.le_refl _) hmn
            have fE : wr.frozen? ⟨w1.heap.size, m, none⟩ = false := by
              rw [hF.free]; simp [World.frozen?]
            have hsz : w1.heap.size < wr.heap.size := by have := hF.size; omega
            have HF : Hid (Filled w1 wr w1.heap.size n m (fun j => (.iface 83 (.pointer (some ⟨w1.heap.size + 1 + j, 0, none⟩)))) (fun j => .string (ss.getD j ByteArray.empty))) := hF
            clear hF
            go_wp2
            refine ⟨⟨m + 1, by omega, by go_num, ?_⟩, by simp [intOf]; omega⟩
            rw [HF.out.size]
            exact filled_step HF.out hmn _ _ (by simp [List.getD])
          · obtain rfl : m = n := by omega
            obtain ⟨wo, rfl⟩ : ∃ wo : World, wo = wr := ⟨_, rfl⟩
            have HF : Hid (Filled w1 wo w1.heap.size m m (fun j => (.iface 83 (.pointer (some ⟨w1.heap.size + 1 + j, 0, none⟩)))) (fun j => .string (ss.getD j ByteArray.empty))) := hF
            have hsz : w1.heap.size < wo.heap.size := by have := hF.size; omega
            clear hF
            go_wp2_with (go_at_call 10; go_in)
            have c2r := (HF.out.below.cell (p := ⟨w.heap.size, 2, none⟩) hL.size).trans hL.c2
            refine Calls.mono (visitS_all_2 _ _ (wo.heap.size + 1 + 1) (wo.heap.size + 1) w.heap.size wo.heap.size w1.heap.size m (w1.heap.size + 1) (ss.take m) ?hr ?ho ?hl ?ha ?hee ?hp ?hro ?hra ?hre ?hrl ?cr ?fr ?o0 ?o1 ?o2 ?c11 ?c12 ?c13 ?ca ?c2 ?hn ?hn2 ?hz ?hw ?hI ?hV) ?_
            case hr => go_size
            case ho => go_size
            case hl => go_size
            case ha => go_size
            case hee => go_size
            case hp => have := HF.out.size; go_size
            case hro => omega
            case hra => omega
            case hre => omega
            case hrl => omega
            case cr => go_cell
            case fr => simp only [frz]; exact frz_none _ _ _ (by omega)
            case o0 => go_cell
            case o1 => go_cell
            case o2 => go_cell
            case c11 => go_cell
            case c12 => go_cell
            case c13 => go_cell
            case ca => go_cell
            case c2 => exact cell_later (w := wo) (by go_grown) c2r
            case hn => omega
            case hn2 => omega
            case hz => have := hz.out; show (ss.take m).length = m; simp; omega
            case hw => exact fun j hj => by have h := hw.out j hj; simpa [List.getD, List.getElem?_take, hj] using h
            case hI => exact fun j hj => cell_later (w := wo) (by go_grown) (HF.out.done j hj)
            case hV =>
              intro j hj
              refine cell_later (w := wo) (by go_grown) ?_
              have h := HF.out.vals j hj
              simpa [List.getD, List.getElem?_take, hj] using h
            rintro ex w2 ⟨rfl, hm, hset⟩
            have HC : Hid (∀ j, j < m → w2.cell? ⟨b, off + j, none⟩ = some (.string (ss.getD j ByteArray.empty))) := fun j hj => hm.get (by go_size) (by unfold TR; omega) (cell_later (w := wo) (by go_grown) ((HF.out.below.cell (p := ⟨b, off + j, none⟩) hbw).trans (hcw.out j hj)))
            have hs2 : wo.heap.size + 1 + 1 + 1 ≤ w2.heap.size := by have := hm.size; simp at this; omega
            have HB : Hid (Below w.heap.size w w2) := ((hL.below.trans (HF.out.below.mono (by have := hL.size; omega))).trans (by have := hL.size; go_grown)).trans (hm.below _ (by have := hL.size; go_size) (fun k o t => by unfold TR at t; omega))
            clear hm c2r hcw hc HF
            obtain ⟨bn, mn, qn, g0, g11, g12, g13, gm, gown⟩ := hset
            rw [setS_take] at gown
            have hq : qn < w2.heap.size := by
              obtain ⟨es, c, hb', _⟩ := gown
              exact (Array.getElem?_eq_some_iff.1 hb').1
            have hb2 : b < w2.heap.size := by omega
            have hlen := gown.len Tryz.underlying86 3
            go_wp2_with (first | (go_at_call 15; (with_reducible refine (distinctS w2.heap.size b off m cap ss _ hn hz HC hb2).mono ?_); rintro e w3 ⟨rfl, hb3⟩))
            go_loopw [28] (fun i wx => ∃ j : Nat, j ≤ m ∧ i = .int .i64 j ∧ Below w2.heap.size w2 wx) (fun i _ => m - (intOf i).toNat)
            case atStart => exact ⟨0, Nat.zero_le _, rfl, hb3⟩
            case round =>
              obtain ⟨j, hj, rfl, hbx⟩ := hrel
              by_cases hjm : j < m
              · have eC := (hbx.cell (p := ⟨b, off + j, none⟩) hb2).trans (HC.out j hjm)
                have own2 := ownsMap_moved gown (hbx.block qn hq)
                have hkey := Lib.hid (Go.WideMaps.keyOf_string_mk Tryz.underlying9 (hw.out j hjm))
                have hh : Maps.has (setS ss m) (.string (ss.getD j ByteArray.empty).data.toList) = true := by
                  rw [has_setS, List.any_eq_true]
                  have hl : j < ss.length := by have := hz.out; omega
                  exact ⟨ss.getD j ByteArray.empty, by rw [List.getD, List.getElem?_eq_getElem hl]; exact List.mem_take_iff_getElem.2 ⟨j, by omega, rfl⟩, by simp⟩
                have hh2 : Maps.has (setS ss m) (.string (ss[j]?.getD ByteArray.empty).data.toList) = true := hh
                go_wp2_with (at_lookup; refine wpList_lookup_own_unit _ rfl _ _ 86 rfl 9 79 lawS Tryz.underlying86 (zeroU _) qn m _ rfl own2 _ _ rfl hkey.out ?_)
                exact ⟨⟨j + 1, by omega, by go_num, hbx.alloc hbx.size _⟩, by simp [intOf]; omega⟩
              · obtain rfl : j = m := by omega
                go_wp2
                go_ret
                exact ⟨rfl, HB.out.trans (hbx.mono (by omega))⟩
  · have hsp0 : 0 ≤ sp := by omega
    have hd : decide (sp < (n : Int)) = false := by simpa using hsp
    go_enter Tryz.func4, Tryz.ntmps4
    go_wp2_with fail
    refine (zbS_any _ _ _ _ ss _ _ _ (by omega) hc).mono ?_
    rintro e w1 ⟨r, rfl, rfl⟩
    cases r
    · go_wp2
      go_ret
      exact ⟨rfl, Below.refl _ _⟩
    go_wp2
    go_loop [7, 8] (fun t i => ∃ (m : Nat) (x : Int), m ≤ n ∧ i = .int .i64 m ∧ t = .int .i64 x) (fun _ i => n - (intOf i).toNat)
    case atStart => exact ⟨0, _, Nat.zero_le _, rfl, rfl⟩
    case round =>
      obtain ⟨mt, x, hmt, rfl, rfl⟩ := hrel
      by_cases hmtn : mt < n
      · have ck := hc.out mt hmtn
        go_wp2
        exact ⟨⟨mt + 1, _, by omega, by go_num, rfl⟩, by simp [intOf]; omega⟩
      · obtain rfl : n = mt := by omega
        clear hmt hmtn
        by_cases hx : 1048576 < x
        · go_wp2
          go_ret
          exact ⟨rfl, Below.refl _ _⟩
        go_wp2_with (first | (go_at_call 8; (with_reducible refine (zmod_any _ _ h1 h2).mono ?_); rintro e w1 ⟨rfl, rfl⟩; rw [hk.out]) | (go_at_call 9; (with_reducible refine (typedLeft_2m _).mono ?_); rintro e w1 ⟨rfl, hL⟩))
        have hww : w.heap.size < w1.heap.size := hL.size
        have hbw : b < w1.heap.size := by have := hL.size; omega
        have hcw : Hid (∀ j, j < n → w1.cell? ⟨b, off + j, none⟩ = some (.string (ss.getD j ByteArray.empty))) := fun j hj => (hL.below.cell (p := ⟨b, off + j, none⟩) hb).trans (hc.out j hj)
        go_loopw [13] (fun i wr => ∃ m : Nat, m ≤ n ∧ i = .int .i64 m ∧ Filled w1 wr w1.heap.size n m (fun j => (.iface 83 (.pointer (some ⟨w1.heap.size + 1 + j, 0, none⟩)))) (fun j => .string (ss.getD j ByteArray.empty))) (fun i _ => n - (intOf i).toNat)
        case atStart => exact ⟨0, Nat.zero_le _, rfl, filled_start _ _ _ _⟩
        case round =>
          obtain ⟨m, hm, rfl, hF⟩ := hrel
          by_cases hmn : m < n
          · have ck := (hF.below.cell (p := ⟨b, off + m, none⟩) hbw).trans (hcw.out m hmn)
            have cE := hF.rest m (Nat.le_refl _) hmn
            have fE : wr.frozen? ⟨w1.heap.size, m, none⟩ = false := by
              rw [hF.free]; simp [World.frozen?]
            have hsz : w1.heap.size < wr.heap.size := by have := hF.size; omega
            have HF : Hid (Filled w1 wr w1.heap.size n m (fun j => (.iface 83 (.pointer (some ⟨w1.heap.size + 1 + j, 0, none⟩)))) (fun j => .string (ss.getD j ByteArray.empty))) := hF
            clear hF
            go_wp2
            refine ⟨⟨m + 1, by omega, by go_num, ?_⟩, by simp [intOf]; omega⟩
            rw [HF.out.size]
            exact filled_step HF.out hmn _ _ (by simp [List.getD])
          · obtain rfl : m = n := by omega
            obtain ⟨wo, rfl⟩ : ∃ wo : World, wo = wr := ⟨_, rfl⟩
            have HF : Hid (Filled w1 wo w1.heap.size m m (fun j => (.iface 83 (.pointer (some ⟨w1.heap.size + 1 + j, 0, none⟩)))) (fun j => .string (ss.getD j ByteArray.empty))) := hF
            have hsz : w1.heap.size < wo.heap.size := by have := hF.size; omega
            clear hF
            go_wp2_with (go_at_call 10; go_in)
            have c2r := (HF.out.below.cell (p := ⟨w.heap.size, 2, none⟩) hL.size).trans hL.c2
            refine Calls.mono (visitS_all_2 _ _ (wo.heap.size + 1 + 1) (wo.heap.size + 1) w.heap.size wo.heap.size w1.heap.size m (w1.heap.size + 1) (ss.take m) ?hr ?ho ?hl ?ha ?hee ?hp ?hro ?hra ?hre ?hrl ?cr ?fr ?o0 ?o1 ?o2 ?c11 ?c12 ?c13 ?ca ?c2 ?hn ?hn2 ?hz ?hw ?hI ?hV) ?_
            case hr => go_size
            case ho => go_size
            case hl => go_size
            case ha => go_size
            case hee => go_size
            case hp => have := HF.out.size; go_size
            case hro => omega
            case hra => omega
            case hre => omega
            case hrl => omega
            case cr => go_cell
            case fr => simp only [frz]; exact frz_none _ _ _ (by omega)
            case o0 => go_cell
            case o1 => go_cell
            case o2 => go_cell
            case c11 => go_cell
            case c12 => go_cell
            case c13 => go_cell
            case ca => go_cell
            case c2 => exact cell_later (w := wo) (by go_grown) c2r
            case hn => omega
            case hn2 => omega
            case hz => have := hz.out; show (ss.take m).length = m; simp; omega
            case hw => exact fun j hj => by have h := hw.out j hj; simpa [List.getD, List.getElem?_take, hj] using h
            case hI => exact fun j hj => cell_later (w := wo) (by go_grown) (HF.out.done j hj)
            case hV =>
              intro j hj
              refine cell_later (w := wo) (by go_grown) ?_
              have h := HF.out.vals j hj
              simpa [List.getD, List.getElem?_take, hj] using h
            rintro ex w2 ⟨rfl, hm, hset⟩
            have HC : Hid (∀ j, j < m → w2.cell? ⟨b, off + j, none⟩ = some (.string (ss.getD j ByteArray.empty))) := fun j hj => hm.get (by go_size) (by unfold TR; omega) (cell_later (w := wo) (by go_grown) ((HF.out.below.cell (p := ⟨b, off + j, none⟩) hbw).trans (hcw.out j hj)))
            have hs2 : wo.heap.size + 1 + 1 + 1 ≤ w2.heap.size := by have := hm.size; simp at this; omega
            have HB : Hid (Below w.heap.size w w2) := ((hL.below.trans (HF.out.below.mono (by have := hL.size; omega))).trans (by have := hL.size; go_grown)).trans (hm.below _ (by have := hL.size; go_size) (fun k o t => by unfold TR at t; omega))
            clear hm c2r hcw hc HF
            obtain ⟨bn, mn, qn, g0, g11, g12, g13, gm, gown⟩ := hset
            rw [setS_take] at gown
            have hq : qn < w2.heap.size := by
              obtain ⟨es, c, hb', _⟩ := gown
              exact (Array.getElem?_eq_some_iff.1 hb').1
            have hb2 : b < w2.heap.size := by omega
            have hlen := gown.len Tryz.underlying86 3
            go_wp2_with (first | (go_at_call 15; (with_reducible refine (distinctS w2.heap.size b off m cap ss _ hn hz HC hb2).mono ?_); rintro e w3 ⟨rfl, hb3⟩))
            go_loopw [28] (fun i wx => ∃ j : Nat, j ≤ m ∧ i = .int .i64 j ∧ Below w2.heap.size w2 wx) (fun i _ => m - (intOf i).toNat)
            case atStart => exact ⟨0, Nat.zero_le _, rfl, hb3⟩
            case round =>
              obtain ⟨j, hj, rfl, hbx⟩ := hrel
              by_cases hjm : j < m
              · have eC := (hbx.cell (p := ⟨b, off + j, none⟩) hb2).trans (HC.out j hjm)
                have own2 := ownsMap_moved gown (hbx.block qn hq)
                have hkey := Lib.hid (Go.WideMaps.keyOf_string_mk Tryz.underlying9 (hw.out j hjm))
                have hh : Maps.has (setS ss m) (.string (ss.getD j ByteArray.empty).data.toList) = true := by
                  rw [has_setS, List.any_eq_true]
                  have hl : j < ss.length := by have := hz.out; omega
                  exact ⟨ss.getD j ByteArray.empty, by rw [List.getD, List.getElem?_eq_getElem hl]; exact List.mem_take_iff_getElem.2 ⟨j, by omega, rfl⟩, by simp⟩
                have hh2 : Maps.has (setS ss m) (.string (ss[j]?.getD ByteArray.empty).data.toList) = true := hh
                go_wp2_with (at_lookup; refine wpList_lookup_own_unit _ rfl _ _ 86 rfl 9 79 lawS Tryz.underlying86 (zeroU _) qn m _ rfl own2 _ _ rfl hkey.out ?_)
                exact ⟨⟨j + 1, by omega, by go_num, hbx.alloc hbx.size _⟩, by simp [intOf]; omega⟩
              · obtain rfl : j = m := by omega
                go_wp2
                go_ret
                exact ⟨rfl, HB.out.trans (hbx.mono (by omega))⟩
end Go.Proofs.YthhijnemlhjpgaaGreat

/-
  What is proved here: the walk of FnInArrayIntSetExact, where the array is rewritten, and where it is empty.
-/
import Derived.Test.YthhijnemlhjpgaaGreatFl
import Derived.WalkSpells
namespace Go.Proofs.YthhijnemlhjpgaaGreat
open Go.ChangeShapes Go.WideShapes Go.ChangeAt Go.RowKit Go.Extern
open Go.Maps (setOf Keyed)
set_option linter.unusedVariables false
set_option linter.unusedSimpArgs false

theorem setI_take (zs : List Int) (m : Nat) : setI (zs.take m) m = setI zs m := by
  unfold setI keysI; rw [List.take_take, Nat.min_self]
theorem zeroU (w : World) : (zeroValue 79).run Tryz.prog w = .ok (.agg #[]) w := by kernel_rfl

theorem madeNodes0 (w : World) : (Instr.makeSlice 41 (.int .i64 0) (.int .i64 0)).run Tryz.prog w = .ok (.slice (some ⟨w.heap.size, 0, none⟩) 0 0) (w.alloc (.cells #[] 56)) := by
  have h := madeNodes 0 (by omega) w
  have e : madeCells #[Value.nilIface] 0 = #[] := by simp [madeCells]
  rw [e] at h
  exact h

theorem frz_none (w : World) (b o : Nat) (h : w.heap.size ≤ b) : w.frozen? ⟨b, o, none⟩ = false := by
  simp [World.frozen?, Array.getElem?_eq_none h]

set_option maxRecDepth 100000 in
set_option maxHeartbeats 4000000 in
theorem lawI_1_n (b off n cap : Nat) (zs : List Int) (k : Int) (sp : Int) (hsp : sp < 0 ∨ (n : Int) ≤ sp) (w : World) (hk : Hid (zm k = 1)) (h1 : -128 ≤ k) (h2 : k ≤ 127) (hn0 : 0 < n) (hn : n ≤ 4096) (hz : Hid (n ≤ zs.length)) (hb : b < w.heap.size) (hw : Hid (∀ j, j < n → (Lit.int .i64 (zs.getD j 0)).wf = true)) (hc : Hid (∀ j, j < n → w.cell? ⟨b, off + j, none⟩ = some (.int .i64 (zs.getD j 0)))) :
    Calls Tryz.prog 3 #[.slice (some ⟨b, off, none⟩) n cap, .int .i8 k, .int .i64 sp] w fun e w' => e = .returned (.bool true) ∧ Below w.heap.size w w' := by
  have q1 := ta_BB
  have q2 := ta_AA
  have q3 := ta_DD
  have q4 := ta_ID
  have q5 := ta_CC
  have q6 := ta_CA
  have q7 : ∀ (v : Value) (w : World), (Instr.typeAssert (.iface 74 v) 20 74 true).run Tryz.prog w = .ok (.tuple #[v, .bool true]) w := fun v w => by kernel_rfl
  have q8 : ∀ (a : Addr) (w : World), (binOp .neq 39 (.pointer (some a)) (.pointer (some a))).run Tryz.prog w = .ok (.bool false) w := fun a w => ptr_neq_same a Tryz.underlying39 (by kernel_rfl) w
  have q9 : ∀ (a : Addr) (w : World), (binOp .neq 63 (.pointer (some a)) (.pointer (some a))).run Tryz.prog w = .ok (.bool false) w := fun a w => ptr_neq_same a Tryz.underlying63 (by kernel_rfl) w
  have q10 : ∀ (a : Addr) (w : World), (binOp .neq 60 (.pointer (some a)) (.pointer (some a))).run Tryz.prog w = .ok (.bool false) w := fun a w => ptr_neq_same a Tryz.underlying60 (by kernel_rfl) w
  have hmk := madeNodes n hn
  rcases hsp with hsp | hsp
  · go_enter Tryz.func3, Tryz.ntmps3
    go_wp2_with (first | (go_at_call 7; (with_reducible refine (zbI_small _ _ _ _ _ _ (by omega)).mono ?_); rintro e w1 ⟨rfl, rfl⟩) | (go_at_call 8; (with_reducible refine (zmod_any _ _ h1 h2).mono ?_); rintro e w1 ⟨rfl, rfl⟩; rw [hk.out]) | (go_at_call 9; (with_reducible refine (typedLeft_1m _).mono ?_); rintro e w1 ⟨rfl, hL⟩))
    have hww : w.heap.size < w1.heap.size := hL.size
    have hbw : b < w1.heap.size := by have := hL.size; omega
    have hcw : Hid (∀ j, j < n → w1.cell? ⟨b, off + j, none⟩ = some (.int .i64 (zs.getD j 0))) := fun j hj => (hL.below.cell (p := ⟨b, off + j, none⟩) hb).trans (hc.out j hj)
    go_loopw [11] (fun i wr => ∃ m : Nat, m ≤ n ∧ i = .int .i64 m ∧ Filled w1 wr w1.heap.size n m (fun j => (.iface 57 (.pointer (some ⟨w1.heap.size + 1 + j, 0, none⟩)))) (fun j => .int .i64 (zs.getD j 0))) (fun i _ => n - (intOf i).toNat)
    case atStart => exact ⟨0, Nat.zero_le _, rfl, filled_start _ _ _ _⟩
    case round =>
      obtain ⟨m, hm, rfl, hF⟩ := hrel
      by_cases hmn : m < n
      · have ck := (hF.below.cell (p := ⟨b, off + m, none⟩) hbw).trans (hcw.out m hmn)
        have cE := hF.rest m (Nat.le_refl _) hmn
        have fE : wr.frozen? ⟨w1.heap.size, m, none⟩ = false := by
          rw [hF.free]; simp [World.frozen?]
        have hsz : w1.heap.size < wr.heap.size := by have := hF.size; omega
        have HF : Hid (Filled w1 wr w1.heap.size n m (fun j => (.iface 57 (.pointer (some ⟨w1.heap.size + 1 + j, 0, none⟩)))) (fun j => .int .i64 (zs.getD j 0))) := hF
        clear hF
        go_wp2
        refine ⟨⟨m + 1, by omega, by go_num, ?_⟩, by simp [intOf]; omega⟩
        rw [HF.out.size]
        exact filled_step HF.out hmn _ _ (by simp [List.getD])
      · obtain rfl : m = n := by omega
        obtain ⟨wo, rfl⟩ : ∃ wo : World, wo = wr := ⟨_, rfl⟩
        have HF : Hid (Filled w1 wo w1.heap.size m m (fun j => (.iface 57 (.pointer (some ⟨w1.heap.size + 1 + j, 0, none⟩)))) (fun j => .int .i64 (zs.getD j 0))) := hF
        have hsz : w1.heap.size < wo.heap.size := by have := hF.size; omega
        clear hF
        go_wp2_with (go_at_call 10; go_in)
        have c2r := (HF.out.below.cell (p := ⟨w.heap.size, 2, none⟩) hL.size).trans hL.c2
        refine Calls.mono (visit_ints _ _ (wo.heap.size + 1 + 1) (wo.heap.size + 1) w.heap.size wo.heap.size w1.heap.size m (w1.heap.size + 1) (zs.take m) ?hr ?ho ?hl ?ha ?hee ?hp ?hro ?hra ?hre ?hrl ?cr ?fr ?o0 ?o1 ?o2 ?c11 ?c12 ?c13 ?ca ?c2 ?hn ?hn2 ?hz ?hw ?hI ?hV) ?_
        case hr => go_size
        case ho => go_size
        case hl => go_size
        case ha => go_size
        case hee => go_size
        case hp => have := HF.out.size; go_size
        case hro => omega
        case hra => omega
        case hre => omega
        case hrl => omega
        case cr => go_cell
        case fr => simp only [frz]; exact frz_none _ _ _ (by omega)
        case o0 => go_cell
        case o1 => go_cell
        case o2 => go_cell
        case c11 => go_cell
        case c12 => go_cell
        case c13 => go_cell
        case ca => go_cell
        case c2 => exact cell_later (w := wo) (by go_grown) c2r
        case hn => omega
        case hn2 => omega
        case hz => have := hz.out; show (zs.take m).length = m; simp; omega
        case hw => exact fun j hj => by have h := hw.out j hj; simpa [List.getD, List.getElem?_take, hj] using h
        case hI => exact fun j hj => cell_later (w := wo) (by go_grown) (HF.out.done j hj)
        case hV =>
          intro j hj
          refine cell_later (w := wo) (by go_grown) ?_
          have h := HF.out.vals j hj
          simpa [List.getD, List.getElem?_take, hj] using h
        rintro ex w2 ⟨rfl, hm, hset⟩
        have HC : Hid (∀ j, j < m → w2.cell? ⟨b, off + j, none⟩ = some (.int .i64 (zs.getD j 0))) := fun j hj => hm.get (by go_size) (by unfold TR; omega) (cell_later (w := wo) (by go_grown) ((HF.out.below.cell (p := ⟨b, off + j, none⟩) hbw).trans (hcw.out j hj)))
        have hs2 : wo.heap.size + 1 + 1 + 1 ≤ w2.heap.size := by have := hm.size; simp at this; omega
        have HB : Hid (Below w.heap.size w w2) := ((hL.below.trans (HF.out.below.mono (by have := hL.size; omega))).trans (by have := hL.size; go_grown)).trans (hm.below _ (by have := hL.size; go_size) (fun k o t => by unfold TR at t; omega))
        clear hm c2r hcw hc HF
        obtain ⟨bn, mn, qn, g0, g11, g12, g13, gm, gown⟩ := hset
        rw [setI_take] at gown
        have hq : qn < w2.heap.size := by
          obtain ⟨es, c, hb', _⟩ := gown
          exact (Array.getElem?_eq_some_iff.1 hb').1
        have hb2 : b < w2.heap.size := by omega
        have hlen := gown.len Tryz.underlying74 3
        go_wp2_with (first | (go_at_call 12; (with_reducible refine (distinctI w2.heap.size b off m cap zs _ hn hz HC hb2).mono ?_); rintro e w3 ⟨rfl, hb3⟩))
        go_loopw [26] (fun i wx => ∃ j : Nat, j ≤ m ∧ i = .int .i64 j ∧ Below w2.heap.size w2 wx) (fun i _ => m - (intOf i).toNat)
        case atStart => exact ⟨0, Nat.zero_le _, rfl, hb3⟩
        case round =>
          obtain ⟨j, hj, rfl, hbx⟩ := hrel
          by_cases hjm : j < m
          · have eC := (hbx.cell (p := ⟨b, off + j, none⟩) hb2).trans (HC.out j hjm)
            have own2 := ownsMap_moved gown (hbx.block qn hq)
            have hkey := Lib.hid (Go.Maps.keyOf_int_mk Tryz.underlying3 (hw.out j hjm))
            have hh : Maps.has (setI zs m) (.int .i64 (zs.getD j 0)) = true := by
              rw [has_setI, List.any_eq_true]
              have hl : j < zs.length := by have := hz.out; omega
              exact ⟨zs.getD j 0, by rw [List.getD, List.getElem?_eq_getElem hl]; exact List.mem_take_iff_getElem.2 ⟨j, by omega, rfl⟩, by simp⟩
            have hh2 : Maps.has (setI zs m) (.int .i64 (zs[j]?.getD 0)) = true := hh
            go_wp2_with (at_lookup; refine wpList_lookup_own_unit _ rfl _ _ 74 rfl 3 79 lawI Tryz.underlying74 (zeroU _) qn m _ rfl own2 _ _ rfl hkey.out ?_)
            exact ⟨⟨j + 1, by omega, by go_num, hbx.alloc hbx.size _⟩, by simp [intOf]; omega⟩
          · obtain rfl : j = m := by omega
            go_wp2
            go_ret
            exact ⟨rfl, HB.out.trans (hbx.mono (by omega))⟩
  · have hsp0 : 0 ≤ sp := by omega
    have hd : decide (sp < (n : Int)) = false := by simpa using hsp
    go_enter Tryz.func3, Tryz.ntmps3
    go_wp2_with (first | (go_at_call 7; (with_reducible refine (zbI_small _ _ _ _ _ _ (by omega)).mono ?_); rintro e w1 ⟨rfl, rfl⟩) | (go_at_call 8; (with_reducible refine (zmod_any _ _ h1 h2).mono ?_); rintro e w1 ⟨rfl, rfl⟩; rw [hk.out]) | (go_at_call 9; (with_reducible refine (typedLeft_1m _).mono ?_); rintro e w1 ⟨rfl, hL⟩))
    have hww : w.heap.size < w1.heap.size := hL.size
    have hbw : b < w1.heap.size := by have := hL.size; omega
    have hcw : Hid (∀ j, j < n → w1.cell? ⟨b, off + j, none⟩ = some (.int .i64 (zs.getD j 0))) := fun j hj => (hL.below.cell (p := ⟨b, off + j, none⟩) hb).trans (hc.out j hj)
    go_loopw [11] (fun i wr => ∃ m : Nat, m ≤ n ∧ i = .int .i64 m ∧ Filled w1 wr w1.heap.size n m (fun j => (.iface 57 (.pointer (some ⟨w1.heap.size + 1 + j, 0, none⟩)))) (fun j => .int .i64 (zs.getD j 0))) (fun i _ => n - (intOf i).toNat)
    case atStart => exact ⟨0, Nat.zero_le _, rfl, filled_start _ _ _ _⟩
    case round =>
      obtain ⟨m, hm, rfl, hF⟩ := hrel
      by_cases hmn : m < n
      · have ck := (hF.below.cell (p := ⟨b, off + m, none⟩) hbw).trans (hcw.out m hmn)
        have cE := hF.rest m (Nat.le_refl _) hmn
        have fE : wr.frozen? ⟨w1.heap.size, m, none⟩ = false := by
          rw [hF.free]; simp [World.frozen?]
        have hsz : w1.heap.size < wr.heap.size := by have := hF.size; omega
        have HF : Hid (Filled w1 wr w1.heap.size n m (fun j => (.iface 57 (.pointer (some ⟨w1.heap.size + 1 + j, 0, none⟩)))) (fun j => .int .i64 (zs.getD j 0))) := hF
        clear hF
        go_wp2
        refine ⟨⟨m + 1, by omega, by go_num, ?_⟩, by simp [intOf]; omega⟩
        rw [HF.out.size]
        exact filled_step HF.out hmn _ _ (by simp [List.getD])
      · obtain rfl : m = n := by omega
        obtain ⟨wo, rfl⟩ : ∃ wo : World, wo = wr := ⟨_, rfl⟩
        have HF : Hid (Filled w1 wo w1.heap.size m m (fun j => (.iface 57 (.pointer (some ⟨w1.heap.size + 1 + j, 0, none⟩)))) (fun j => .int .i64 (zs.getD j 0))) := hF
        have hsz : w1.heap.size < wo.heap.size := by have := hF.size; omega
        clear hF
        go_wp2_with (go_at_call 10; go_in)
        have c2r := (HF.out.below.cell (p := ⟨w.heap.size, 2, none⟩) hL.size).trans hL.c2
        refine Calls.mono (visit_ints _ _ (wo.heap.size + 1 + 1) (wo.heap.size + 1) w.heap.size wo.heap.size w1.heap.size m (w1.heap.size + 1) (zs.take m) ?hr ?ho ?hl ?ha ?hee ?hp ?hro ?hra ?hre ?hrl ?cr ?fr ?o0 ?o1 ?o2 ?c11 ?c12 ?c13 ?ca ?c2 ?hn ?hn2 ?hz ?hw ?hI ?hV) ?_
        case hr => go_size
        case ho => go_size
        case hl => go_size
        case ha => go_size
        case hee => go_size
        case hp => have := HF.out.size; go_size
        case hro => omega
        case hra => omega
        case hre => omega
        case hrl => omega
        case cr => go_cell
        case fr => simp only [frz]; exact frz_none _ _ _ (by omega)
        case o0 => go_cell
        case o1 => go_cell
        case o2 => go_cell
        case c11 => go_cell
        case c12 => go_cell
        case c13 => go_cell
        case ca => go_cell
        case c2 => exact cell_later (w := wo) (by go_grown) c2r
        case hn => omega
        case hn2 => omega
        case hz => have := hz.out; show (zs.take m).length = m; simp; omega
        case hw => exact fun j hj => by have h := hw.out j hj; simpa [List.getD, List.getElem?_take, hj] using h
        case hI => exact fun j hj => cell_later (w := wo) (by go_grown) (HF.out.done j hj)
        case hV =>
          intro j hj
          refine cell_later (w := wo) (by go_grown) ?_
          have h := HF.out.vals j hj
          simpa [List.getD, List.getElem?_take, hj] using h
        rintro ex w2 ⟨rfl, hm, hset⟩
        have HC : Hid (∀ j, j < m → w2.cell? ⟨b, off + j, none⟩ = some (.int .i64 (zs.getD j 0))) := fun j hj => hm.get (by go_size) (by unfold TR; omega) (cell_later (w := wo) (by go_grown) ((HF.out.below.cell (p := ⟨b, off + j, none⟩) hbw).trans (hcw.out j hj)))
        have hs2 : wo.heap.size + 1 + 1 + 1 ≤ w2.heap.size := by have := hm.size; simp at this; omega
        have HB : Hid (Below w.heap.size w w2) := ((hL.below.trans (HF.out.below.mono (by have := hL.size; omega))).trans (by have := hL.size; go_grown)).trans (hm.below _ (by have := hL.size; go_size) (fun k o t => by unfold TR at t; omega))
        clear hm c2r hcw hc HF
        obtain ⟨bn, mn, qn, g0, g11, g12, g13, gm, gown⟩ := hset
        rw [setI_take] at gown
        have hq : qn < w2.heap.size := by
          obtain ⟨es, c, hb', _⟩ := gown
          exact (Array.getElem?_eq_some_iff.1 hb').1
        have hb2 : b < w2.heap.size := by omega
        have hlen := gown.len Tryz.underlying74 3
        go_wp2_with (first | (go_at_call 12; (with_reducible refine (distinctI w2.heap.size b off m cap zs _ hn hz HC hb2).mono ?_); rintro e w3 ⟨rfl, hb3⟩))
        go_loopw [26] (fun i wx => ∃ j : Nat, j ≤ m ∧ i = .int .i64 j ∧ Below w2.heap.size w2 wx) (fun i _ => m - (intOf i).toNat)
        case atStart => exact ⟨0, Nat.zero_le _, rfl, hb3⟩
        case round =>
          obtain ⟨j, hj, rfl, hbx⟩ := hrel
          by_cases hjm : j < m
          · have eC := (hbx.cell (p := ⟨b, off + j, none⟩) hb2).trans (HC.out j hjm)
            have own2 := ownsMap_moved gown (hbx.block qn hq)
            have hkey := Lib.hid (Go.Maps.keyOf_int_mk Tryz.underlying3 (hw.out j hjm))
            have hh : Maps.has (setI zs m) (.int .i64 (zs.getD j 0)) = true := by
              rw [has_setI, List.any_eq_true]
              have hl : j < zs.length := by have := hz.out; omega
              exact ⟨zs.getD j 0, by rw [List.getD, List.getElem?_eq_getElem hl]; exact List.mem_take_iff_getElem.2 ⟨j, by omega, rfl⟩, by simp⟩
            have hh2 : Maps.has (setI zs m) (.int .i64 (zs[j]?.getD 0)) = true := hh
            go_wp2_with (at_lookup; refine wpList_lookup_own_unit _ rfl _ _ 74 rfl 3 79 lawI Tryz.underlying74 (zeroU _) qn m _ rfl own2 _ _ rfl hkey.out ?_)
            exact ⟨⟨j + 1, by omega, by go_num, hbx.alloc hbx.size _⟩, by simp [intOf]; omega⟩
          · obtain rfl : j = m := by omega
            go_wp2
            go_ret
            exact ⟨rfl, HB.out.trans (hbx.mono (by omega))⟩

set_option maxRecDepth 100000 in
set_option maxHeartbeats 4000000 in
theorem lawI_0_0 (a : Option Addr) (cap : Nat) (k sp : Int) (w : World) (hk : Hid (zm k = 0)) (h1 : -128 ≤ k) (h2 : k ≤ 127) :
    Calls Tryz.prog 3 #[.slice a 0 cap, .int .i8 k, .int .i64 sp] w fun e w' => e = .returned (.bool true) ∧ Below w.heap.size w w' := by
  have q1 := ta_BB
  have q2 := ta_AA
  have q3 := ta_DD
  have q4 := ta_ID
  have q5 := ta_CC
  have q6 := ta_CA
  have q7 : ∀ (v : Value) (w : World), (Instr.typeAssert (.iface 74 v) 20 74 true).run Tryz.prog w = .ok (.tuple #[v, .bool true]) w := fun v w => by kernel_rfl
  have q8 : ∀ (a : Addr) (w : World), (binOp .neq 39 (.pointer (some a)) (.pointer (some a))).run Tryz.prog w = .ok (.bool false) w := fun a w => ptr_neq_same a Tryz.underlying39 (by kernel_rfl) w
  have q9 : ∀ (a : Addr) (w : World), (binOp .neq 63 (.pointer (some a)) (.pointer (some a))).run Tryz.prog w = .ok (.bool false) w := fun a w => ptr_neq_same a Tryz.underlying63 (by kernel_rfl) w
  have q10 : ∀ (a : Addr) (w : World), (binOp .neq 60 (.pointer (some a)) (.pointer (some a))).run Tryz.prog w = .ok (.bool false) w := fun a w => ptr_neq_same a Tryz.underlying60 (by kernel_rfl) w
  have hmk := madeNodes0
  by_cases hsp : sp < 0
  · go_enter Tryz.func3, Tryz.ntmps3
    go_wp2_with (first | (go_at_call 7; (with_reducible refine (zbI_small _ _ _ _ _ _ (by omega)).mono ?_); rintro e w1 ⟨rfl, rfl⟩) | (go_at_call 8; (with_reducible refine (zmod_any _ _ h1 h2).mono ?_); rintro e w1 ⟨rfl, rfl⟩; rw [hk.out]) | (go_at_call 9; (with_reducible refine (typedLeft_0m _).mono ?_); rintro e w1 ⟨rfl, hL⟩))
    have hww : w.heap.size < w1.heap.size := hL.size
    go_rounds 1
    go_wp2_with (go_at_call 10; go_in)
    go_rounds 1
    go_ret
    exact ⟨rfl, hL.below.trans (by go_grown)⟩
  · have hsp0 : 0 ≤ sp := by omega
    have hd : decide (sp < (0 : Int)) = false := by simpa using hsp
    go_enter Tryz.func3, Tryz.ntmps3
    go_wp2_with (first | (go_at_call 7; (with_reducible refine (zbI_small _ _ _ _ _ _ (by omega)).mono ?_); rintro e w1 ⟨rfl, rfl⟩) | (go_at_call 8; (with_reducible refine (zmod_any _ _ h1 h2).mono ?_); rintro e w1 ⟨rfl, rfl⟩; rw [hk.out]) | (go_at_call 9; (with_reducible refine (typedLeft_0m _).mono ?_); rintro e w1 ⟨rfl, hL⟩))
    have hww : w.heap.size < w1.heap.size := hL.size
    go_rounds 1
    go_wp2_with (go_at_call 10; go_in)
    go_rounds 1
    go_ret
    exact ⟨rfl, hL.below.trans (by go_grown)⟩

set_option maxRecDepth 100000 in
set_option maxHeartbeats 4000000 in
theorem lawI_1_0 (a : Option Addr) (cap : Nat) (k sp : Int) (w : World) (hk : Hid (zm k = 1)) (h1 : -128 ≤ k) (h2 : k ≤ 127) :
    Calls Tryz.prog 3 #[.slice a 0 cap, .int .i8 k, .int .i64 sp] w fun e w' => e = .returned (.bool true) ∧ Below w.heap.size w w' := by
  have q1 := ta_BB
  have q2 := ta_AA
  have q3 := ta_DD
  have q4 := ta_ID
  have q5 := ta_CC
  have q6 := ta_CA
  have q7 : ∀ (v : Value) (w : World), (Instr.typeAssert (.iface 74 v) 20 74 true).run Tryz.prog w = .ok (.tuple #[v, .bool true]) w := fun v w => by kernel_rfl
  have q8 : ∀ (a : Addr) (w : World), (binOp .neq 39 (.pointer (some a)) (.pointer (some a))).run Tryz.prog w = .ok (.bool false) w := fun a w => ptr_neq_same a Tryz.underlying39 (by kernel_rfl) w
  have q9 : ∀ (a : Addr) (w : World), (binOp .neq 63 (.pointer (some a)) (.pointer (some a))).run Tryz.prog w = .ok (.bool false) w := fun a w => ptr_neq_same a Tryz.underlying63 (by kernel_rfl) w
  have q10 : ∀ (a : Addr) (w : World), (binOp .neq 60 (.pointer (some a)) (.pointer (some a))).run Tryz.prog w = .ok (.bool false) w := fun a w => ptr_neq_same a Tryz.underlying60 (by kernel_rfl) w
  have hmk := madeNodes0
  by_cases hsp : sp < 0
  · go_enter Tryz.func3, Tryz.ntmps3
    go_wp2_with (first | (go_at_call 7; (with_reducible refine (zbI_small _ _ _ _ _ _ (by omega)).mono ?_); rintro e w1 ⟨rfl, rfl⟩) | (go_at_call 8; (with_reducible refine (zmod_any _ _ h1 h2).mono ?_); rintro e w1 ⟨rfl, rfl⟩; rw [hk.out]) | (go_at_call 9; (with_reducible refine (typedLeft_1m _).mono ?_); rintro e w1 ⟨rfl, hL⟩))
    have hww : w.heap.size < w1.heap.size := hL.size
    go_rounds 1
    go_wp2_with (go_at_call 10; go_in)
    go_rounds 1
    go_ret
    exact ⟨rfl, hL.below.trans (by go_grown)⟩
  · have hsp0 : 0 ≤ sp := by omega
    have hd : decide (sp < (0 : Int)) = false := by simpa using hsp
    go_enter Tryz.func3, Tryz.ntmps3
    go_wp2_with (first | (go_at_call 7; (with_reducible refine (zbI_small _ _ _ _ _ _ (by omega)).mono ?_); rintro e w1 ⟨rfl, rfl⟩) | (go_at_call 8; (with_reducible refine (zmod_any _ _ h1 h2).mono ?_); rintro e w1 ⟨rfl, rfl⟩; rw [hk.out]) | (go_at_call 9; (with_reducible refine (typedLeft_1m _).mono ?_); rintro e w1 ⟨rfl, hL⟩))
    have hww : w.heap.size < w1.heap.size := hL.size
    go_rounds 1
    go_wp2_with (go_at_call 10; go_in)
    go_rounds 1
    go_ret
    exact ⟨rfl, hL.below.trans (by go_grown)⟩

set_option maxRecDepth 100000 in
set_option maxHeartbeats 4000000 in
theorem lawI_2_0 (a : Option Addr) (cap : Nat) (k sp : Int) (w : World) (hk : Hid (zm k = 2)) (h1 : -128 ≤ k) (h2 : k ≤ 127) :
    Calls Tryz.prog 3 #[.slice a 0 cap, .int .i8 k, .int .i64 sp] w fun e w' => e = .returned (.bool true) ∧ Below w.heap.size w w' := by
  have q1 := ta_BB
  have q2 := ta_AA
  have q3 := ta_DD
  have q4 := ta_ID
  have q5 := ta_CC
  have q6 := ta_CA
  have q7 : ∀ (v : Value) (w : World), (Instr.typeAssert (.iface 74 v) 20 74 true).run Tryz.prog w = .ok (.tuple #[v, .bool true]) w := fun v w => by kernel_rfl
  have q8 : ∀ (a : Addr) (w : World), (binOp .neq 39 (.pointer (some a)) (.pointer (some a))).run Tryz.prog w = .ok (.bool false) w := fun a w => ptr_neq_same a Tryz.underlying39 (by kernel_rfl) w
  have q9 : ∀ (a : Addr) (w : World), (binOp .neq 63 (.pointer (some a)) (.pointer (some a))).run Tryz.prog w = .ok (.bool false) w := fun a w => ptr_neq_same a Tryz.underlying63 (by kernel_rfl) w
  have q10 : ∀ (a : Addr) (w : World), (binOp .neq 60 (.pointer (some a)) (.pointer (some a))).run Tryz.prog w = .ok (.bool false) w := fun a w => ptr_neq_same a Tryz.underlying60 (by kernel_rfl) w
  have hmk := madeNodes0
  by_cases hsp : sp < 0
  · go_enter Tryz.func3, Tryz.ntmps3
    go_wp2_with (first | (go_at_call 7; (with_reducible refine (zbI_small _ _ _ _ _ _ (by omega)).mono ?_); rintro e w1 ⟨rfl, rfl⟩) | (go_at_call 8; (with_reducible refine (zmod_any _ _ h1 h2).mono ?_); rintro e w1 ⟨rfl, rfl⟩; rw [hk.out]) | (go_at_call 9; (with_reducible refine (typedLeft_2m _).mono ?_); rintro e w1 ⟨rfl, hL⟩))
    have hww : w.heap.size < w1.heap.size := hL.size
    go_rounds 1
    go_wp2_with (go_at_call 10; go_in)
    go_rounds 1
    go_ret
    exact ⟨rfl, hL.below.trans (by go_grown)⟩
  · have hsp0 : 0 ≤ sp := by omega
    have hd : decide (sp < (0 : Int)) = false := by simpa using hsp
    go_enter Tryz.func3, Tryz.ntmps3
    go_wp2_with (first | (go_at_call 7; (with_reducible refine (zbI_small _ _ _ _ _ _ (by omega)).mono ?_); rintro e w1 ⟨rfl, rfl⟩) | (go_at_call 8; (with_reducible refine (zmod_any _ _ h1 h2).mono ?_); rintro e w1 ⟨rfl, rfl⟩; rw [hk.out]) | (go_at_call 9; (with_reducible refine (typedLeft_2m _).mono ?_); rintro e w1 ⟨rfl, hL⟩))
    have hww : w.heap.size < w1.heap.size := hL.size
    go_rounds 1
    go_wp2_with (go_at_call 10; go_in)
    go_rounds 1
    go_ret
    exact ⟨rfl, hL.below.trans (by go_grown)⟩
end Go.Proofs.YthhijnemlhjpgaaGreat

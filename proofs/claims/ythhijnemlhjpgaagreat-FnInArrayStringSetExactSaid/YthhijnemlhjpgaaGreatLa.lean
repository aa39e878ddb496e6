/-
  What is proved here: the walk of FnInArrayIntSetExact.
-/
import Derived.Test.YthhijnemlhjpgaaGreatFl
import Derived.WalkSpells
namespace Go.Proofs.YthhijnemlhjpgaaGreat
open Go.ChangeShapes Go.WideShapes Go.ChangeAt Go.RowKit Go.Extern
open Go.Maps (setOf Keyed)
set_option linter.unusedVariables false
set_option linter.unusedSimpArgs false

set_option maxRecDepth 100000 in
set_option maxHeartbeats 4000000 in
theorem lawI_0_n (b off n cap : Nat) (zs : List Int) (k : Int) (sp : Int) (hsp : sp < 0 ∨ (n : Int) ≤ sp) (w : World) (hk : Hid (zm k = 0)) (h1 : -128 ≤ k) (h2 : k ≤ 127) (hn0 : 0 < n) (hn : n ≤ 4096) (hz : Hid (n ≤ zs.length)) (hb : b < w.heap.size) (hw : Hid (∀ j, j < n → (Lit.int .i64 (zs.getD j 0)).wf = true)) (hc : Hid (∀ j, j < n → w.cell? ⟨b, off + j, none⟩ = some (.int .i64 (zs.getD j 0)))) :
    Calls Tryz.prog 3 #[.slice (some ⟨b, off, none⟩) n cap, .int .i8 k, .int .i64 sp] w fun e w' => e = .returned (.bool true) ∧ Below w.heap.size w w' := by
  have q1 := ta_BB
  have q2 := ta_AA
  have q3 := ta_DD
  have q4 := ta_ID
  have q5 := ta_CC
  have q6 := ta_CA
  have q7 : ∀ (v : Value) (w : World), (Instr.typeAssert (.iface 74 v) 20 74 true).run Tryz.prog w = .ok (.tuple #[v, .bool true]) w := fun v w => by kernel_rfl
  have q8 : ∀ (a : Addr) (w : World), (binOp .neq 39 (.pointer (some a)) (.pointer (some a))).run Tryz.prog w = .ok (.bool false) w := fun a w => ptr_neq_same a Tryz.underlying39 (by kernel_rfl) w
  have q9 : ∀ (a : Addr) (w : World), (binOp .neq 63 (.pointer (some a)) (.pointer (some a))).run Tryz.prog w = .ok (.bool false) w := fun a w => ptr_neq_same a Tryz.underlying63 (by kernel_rfl) w
  have q10 : ∀ (a : Addr) (w : World), (binOp .neq 60 (.pointer (some a)) (.pointer (some a))).run Tryz.prog w = .ok (.bool false) w := fun a w => ptr_neq_same a Tryz.underlying60 (by kernel_rfl) w
  have hmk := madeNodes n hn
  rcases hsp with hsp | hsp
  · go_enter Tryz.func3, Tryz.ntmps3
    go_wp2_with (first | (go_at_call 7; (with_reducible refine (zbI_small _ _ _ _ _ _ (by omega)).mono ?_); rintro e w1 ⟨rfl, rfl⟩) | (go_at_call 8; (with_reducible refine (zmod_any _ _ h1 h2).mono ?_); rintro e w1 ⟨rfl, rfl⟩; rw [hk.out]) | (go_at_call 9; (with_reducible refine (typedLeft_0m _).mono ?_); rintro e w1 ⟨rfl, hL⟩))
    have hww : w.heap.size < w1.heap.size := hL.size
    have hbw : b < w1.heap.size := by have := hL.size; omega
    have hcw : Hid (∀ j, j < n → w1.cell? ⟨b, off + j, none⟩ = some (.int .i64 (zs.getD j 0))) := fun j hj => (hL.below.cell (p := ⟨b, off + j, none⟩) hb).trans (hc.out j hj)
    go_loopw [11] (fun i wr => ∃ m : Nat, m ≤ n ∧ i = .int .i64 m ∧ Filled w1 wr w1.heap.size n m (fun j => (.iface 57 (.pointer (some ⟨w1.heap.size + 1 + j, 0, none⟩)))) (fun j => .int .i64 (zs.getD j 0))) (fun i _ => n - (intOf i).toNat)
    case atStart => exact ⟨0, Nat.zero_le _, rfl, filled_start _ _ _ _⟩
    case round =>
      obtain ⟨m, hm, rfl, hF⟩ := hrel
      by_cases hmn : m < n
      · have ck := (hF.below.cell (p := ⟨b, off + m, none⟩) hbw).trans (hcw.out m hmn)
        have cE := hF.rest m (Nat.le_refl _) hmn
        have fE : wr.frozen? ⟨w1.heap.size, m, none⟩ = false := by
          rw [hF.free]; simp [World.frozen?]
        have hsz : w1.heap.size < wr.heap.size := by have := hF.size; omega
        have HF : Hid (Filled w1 wr w1.heap.size n m (fun j => (.iface 57 (.pointer (some ⟨w1.heap.size + 1 + j, 0, none⟩)))) (fun j => .int .i64 (zs.getD j 0))) := hF
        clear hF
        go_wp2
        refine ⟨⟨m + 1, by omega, by go_num, ?_⟩, by simp [intOf]; omega⟩
        rw [HF.out.size]
        exact filled_step HF.out hmn _ _ (by simp [List.getD])
      · obtain rfl : m = n := by omega
        obtain ⟨wo, rfl⟩ : ∃ wo : World, wo = wr := ⟨_, rfl⟩
        have HF : Hid (Filled w1 wo w1.heap.size m m (fun j => (.iface 57 (.pointer (some ⟨w1.heap.size + 1 + j, 0, none⟩)))) (fun j => .int .i64 (zs.getD j 0))) := hF
        have hsz : w1.heap.size < wo.heap.size := by have := hF.size; omega
        clear hF
        go_wp2_with (go_at_call 10; go_in)
        have c2r := (HF.out.below.cell (p := ⟨w.heap.size, 2, none⟩) hL.size).trans hL.c2
        refine Calls.mono (visit_untyped _ _ (wo.heap.size + 1 + 1) (wo.heap.size + 1) w.heap.size wo.heap.size w1.heap.size m .nilIface (w1.heap.size + 1 + 0) ?hr ?ho ?ha ?he ?cr ?c11 ?c12 ?c13 ?ca ?hn ?hn2 ?c2 ?hE) ?_
        case hr => go_size
        case ho => go_size
        case ha => go_size
        case he => go_size
        case cr => go_cell
        case c11 => go_cell
        case c12 => go_cell
        case c13 => go_cell
        case ca => go_cell
        case hn => omega
        case hn2 => omega
        case c2 => exact cell_later (by go_grown) c2r
        case hE => exact Or.inl (cell_later (by go_grown) (HF.out.done 0 hn0))
        rintro ex w2 ⟨rfl, hm⟩
        have r0 : w2.cell? ⟨wo.heap.size + 1 + 1, 0, none⟩ = some (.iface 63 (.pointer (some ⟨wo.heap.size + 1, 0, none⟩))) := hm.get (by go_size) (fun h => h) (by go_cell)
        have r11 : w2.cell? ⟨wo.heap.size + 1, 11, none⟩ = some (.string ⟨#[105, 110]⟩) := hm.get (by go_size) (fun h => h) (by go_cell)
        have r12 : w2.cell? ⟨wo.heap.size + 1, 12, none⟩ = some (.iface 39 (.pointer (some ⟨w.heap.size, 0, none⟩))) := hm.get (by go_size) (fun h => h) (by go_cell)
        have r13 : w2.cell? ⟨wo.heap.size + 1, 13, none⟩ = some (.iface 60 (.pointer (some ⟨wo.heap.size, 0, none⟩))) := hm.get (by go_size) (fun h => h) (by go_cell)
        have ra : w2.cell? ⟨wo.heap.size, 11, none⟩ = some (.slice (some ⟨w1.heap.size, 0, none⟩) m m) := hm.get (by go_size) (fun h => h) (by go_cell)
        have HE : Hid (∀ j, j < m → w2.cell? ⟨w1.heap.size, j, none⟩ = some ((fun j => (.iface 57 (.pointer (some ⟨w1.heap.size + 1 + j, 0, none⟩)))) j)) := fun j hj => hm.get (by go_size) (fun h => h) (cell_later (by go_grown) (HF.out.done j hj))
        have HV : Hid (∀ j, j < m → w2.cell? ⟨w1.heap.size + 1 + j, 11, none⟩ = some ((fun j => .int .i64 (zs.getD j 0)) j)) := fun j hj => hm.get (by have := HF.out.size; go_size) (fun h => h) (cell_later (by go_grown) (HF.out.vals j hj))
        have HC : Hid (∀ j, j < m → w2.cell? ⟨b, off + j, none⟩ = some (.int .i64 (zs.getD j 0))) := fun j hj => hm.get (by go_size) (fun h => h) (cell_later (by go_grown) ((HF.out.below.cell (p := ⟨b, off + j, none⟩) hbw).trans (hcw.out j hj)))
        have hs2 : wo.heap.size + 1 + 1 + 1 ≤ w2.heap.size := by have := hm.size; simp at this; omega
        have HB : Hid (Below w.heap.size w w2) := ((hL.below.trans (HF.out.below.mono (by have := hL.size; omega))).trans (by have := hL.size; go_grown)).trans (hm.below _ (by have := hL.size; go_size) (fun _ _ t => t.elim))
        have hEs : w1.heap.size + 1 + m ≤ w2.heap.size := by have := HF.out.size; omega
        clear hm c2r hcw hc
        go_wp2
        go_loopw [20] (fun i wx => ∃ j : Nat, j ≤ m ∧ i = .int .i64 j ∧ Below w2.heap.size w2 wx) (fun i _ => m - (intOf i).toNat)
        case atStart => exact ⟨0, Nat.zero_le _, rfl, Below.refl _ _⟩
        case round =>
          obtain ⟨j, hj, rfl, hbx⟩ := hrel
          by_cases hjm : j < m
          · have eE := (hbx.cell (p := ⟨w1.heap.size, j, none⟩) (by show w1.heap.size < _; omega)).trans (HE.out j hjm)
            have eV := (hbx.cell (p := ⟨w1.heap.size + 1 + j, 11, none⟩) (by show w1.heap.size + 1 + j < _; omega)).trans (HV.out j hjm)
            have eC := (hbx.cell (p := ⟨b, off + j, none⟩) (by show b < _; omega)).trans (HC.out j hjm)
            have eA := (hbx.cell (p := ⟨wo.heap.size, 11, none⟩) (by show wo.heap.size < _; omega)).trans ra
            go_wp2_with (go_at_call 11; (with_reducible refine (toInt_calls _ _).mono ?_); rintro e w3 ⟨rfl, rfl⟩)
            go_quiet (fail)
            all_goals go_wp2
            all_goals exact ⟨⟨j + 1, by omega, by go_num, ⟨hbx.os, hbx.tape, hbx.output, hbx.size, hbx.block⟩⟩, by simp [intOf]; omega⟩
          · obtain rfl : j = m := by omega
            go_wp2
            go_ret
            exact ⟨rfl, HB.out.trans (hbx.mono (by omega))⟩
  · have hsp0 : 0 ≤ sp := by omega
    have hd : decide (sp < (n : Int)) = false := by simpa using hsp
    go_enter Tryz.func3, Tryz.ntmps3
    go_wp2_with (first | (go_at_call 7; (with_reducible refine (zbI_small _ _ _ _ _ _ (by omega)).mono ?_); rintro e w1 ⟨rfl, rfl⟩) | (go_at_call 8; (with_reducible refine (zmod_any _ _ h1 h2).mono ?_); rintro e w1 ⟨rfl, rfl⟩; rw [hk.out]) | (go_at_call 9; (with_reducible refine (typedLeft_0m _).mono ?_); rintro e w1 ⟨rfl, hL⟩))
    have hww : w.heap.size < w1.heap.size := hL.size
    have hbw : b < w1.heap.size := by have := hL.size; omega
    have hcw : Hid (∀ j, j < n → w1.cell? ⟨b, off + j, none⟩ = some (.int .i64 (zs.getD j 0))) := fun j hj => (hL.below.cell (p := ⟨b, off + j, none⟩) hb).trans (hc.out j hj)
    go_loopw [11] (fun i wr => ∃ m : Nat, m ≤ n ∧ i = .int .i64 m ∧ Filled w1 wr w1.heap.size n m (fun j => (.iface 57 (.pointer (some ⟨w1.heap.size + 1 + j, 0, none⟩)))) (fun j => .int .i64 (zs.getD j 0))) (fun i _ => n - (intOf i).toNat)
    case atStart => exact ⟨0, Nat.zero_le _, rfl, filled_start _ _ _ _⟩
    case round =>
      obtain ⟨m, hm, rfl, hF⟩ := hrel
      by_cases hmn : m < n
      · have ck := (hF.below.cell (p := ⟨b, off + m, none⟩) hbw).trans (hcw.out m hmn)
        have cE := hF.rest m (Nat.le_refl _) hmn
        have fE : wr.frozen? ⟨w1.heap.size, m, none⟩ = false := by
          rw [hF.free]; simp [World.frozen?]
        have hsz : w1.heap.size < wr.heap.size := by have := hF.size; omega
        have HF : Hid (Filled w1 wr w1.heap.size n m (fun j => (.iface 57 (.pointer (some ⟨w1.heap.size + 1 + j, 0, none⟩)))) (fun j => .int .i64 (zs.getD j 0))) := hF
        clear hF
        go_wp2
        refine ⟨⟨m + 1, by omega, by go_num, ?_⟩, by simp [intOf]; omega⟩
        rw [HF.out.size]
        exact filled_step HF.out hmn _ _ (by simp [List.getD])
      · obtain rfl : m = n := by omega
        obtain ⟨wo, rfl⟩ : ∃ wo : World, wo = wr := ⟨_, rfl⟩
        have HF : Hid (Filled w1 wo w1.heap.size m m (fun j => (.iface 57 (.pointer (some ⟨w1.heap.size + 1 + j, 0, none⟩)))) (fun j => .int .i64 (zs.getD j 0))) := hF
        have hsz : w1.heap.size < wo.heap.size := by have := hF.size; omega
        clear hF
        go_wp2_with (go_at_call 10; go_in)
        have c2r := (HF.out.below.cell (p := ⟨w.heap.size, 2, none⟩) hL.size).trans hL.c2
        refine Calls.mono (visit_untyped _ _ (wo.heap.size + 1 + 1) (wo.heap.size + 1) w.heap.size wo.heap.size w1.heap.size m .nilIface (w1.heap.size + 1 + 0) ?hr ?ho ?ha ?he ?cr ?c11 ?c12 ?c13 ?ca ?hn ?hn2 ?c2 ?hE) ?_
        case hr => go_size
        case ho => go_size
        case ha => go_size
        case he => go_size
        case cr => go_cell
        case c11 => go_cell
        case c12 => go_cell
        case c13 => go_cell
        case ca => go_cell
        case hn => omega
        case hn2 => omega
        case c2 => exact cell_later (by go_grown) c2r
        case hE => exact Or.inl (cell_later (by go_grown) (HF.out.done 0 hn0))
        rintro ex w2 ⟨rfl, hm⟩
        have r0 : w2.cell? ⟨wo.heap.size + 1 + 1, 0, none⟩ = some (.iface 63 (.pointer (some ⟨wo.heap.size + 1, 0, none⟩))) := hm.get (by go_size) (fun h => h) (by go_cell)
        have r11 : w2.cell? ⟨wo.heap.size + 1, 11, none⟩ = some (.string ⟨#[105, 110]⟩) := hm.get (by go_size) (fun h => h) (by go_cell)
        have r12 : w2.cell? ⟨wo.heap.size + 1, 12, none⟩ = some (.iface 39 (.pointer (some ⟨w.heap.size, 0, none⟩))) := hm.get (by go_size) (fun h => h) (by go_cell)
        have r13 : w2.cell? ⟨wo.heap.size + 1, 13, none⟩ = some (.iface 60 (.pointer (some ⟨wo.heap.size, 0, none⟩))) := hm.get (by go_size) (fun h => h) (by go_cell)
        have ra : w2.cell? ⟨wo.heap.size, 11, none⟩ = some (.slice (some ⟨w1.heap.size, 0, none⟩) m m) := hm.get (by go_size) (fun h => h) (by go_cell)
        have HE : Hid (∀ j, j < m → w2.cell? ⟨w1.heap.size, j, none⟩ = some ((fun j => (.iface 57 (.pointer (some ⟨w1.heap.size + 1 + j, 0, none⟩)))) j)) := fun j hj => hm.get (by go_size) (fun h => h) (cell_later (by go_grown) (HF.out.done j hj))
        have HV : Hid (∀ j, j < m → w2.cell? ⟨w1.heap.size + 1 + j, 11, none⟩ = some ((fun j => .int .i64 (zs.getD j 0)) j)) := fun j hj => hm.get (by have := HF.out.size; go_size) (fun h => h) (cell_later (by go_grown) (HF.out.vals j hj))
        have HC : Hid (∀ j, j < m → w2.cell? ⟨b, off + j, none⟩ = some (.int .i64 (zs.getD j 0))) := fun j hj => hm.get (by go_size) (fun h => h) (cell_later (by go_grown) ((HF.out.below.cell (p := ⟨b, off + j, none⟩) hbw).trans (hcw.out j hj)))
        have hs2 : wo.heap.size + 1 + 1 + 1 ≤ w2.heap.size := by have := hm.size; simp at this; omega
        have HB : Hid (Below w.heap.size w w2) := ((hL.below.trans (HF.out.below.mono (by have := hL.size; omega))).trans (by have := hL.size; go_grown)).trans (hm.below _ (by have := hL.size; go_size) (fun _ _ t => t.elim))
        have hEs : w1.heap.size + 1 + m ≤ w2.heap.size := by have := HF.out.size; omega
        clear hm c2r hcw hc
        go_wp2
        go_loopw [20] (fun i wx => ∃ j : Nat, j ≤ m ∧ i = .int .i64 j ∧ Below w2.heap.size w2 wx) (fun i _ => m - (intOf i).toNat)
        case atStart => exact ⟨0, Nat.zero_le _, rfl, Below.refl _ _⟩
        case round =>
          obtain ⟨j, hj, rfl, hbx⟩ := hrel
          by_cases hjm : j < m
          · have eE := (hbx.cell (p := ⟨w1.heap.size, j, none⟩) (by show w1.heap.size < _; omega)).trans (HE.out j hjm)
            have eV := (hbx.cell (p := ⟨w1.heap.size + 1 + j, 11, none⟩) (by show w1.heap.size + 1 + j < _; omega)).trans (HV.out j hjm)
            have eC := (hbx.cell (p := ⟨b, off + j, none⟩) (by show b < _; omega)).trans (HC.out j hjm)
            have eA := (hbx.cell (p := ⟨wo.heap.size, 11, none⟩) (by show wo.heap.size < _; omega)).trans ra
            go_wp2_with (go_at_call 11; (with_reducible refine (toInt_calls _ _).mono ?_); rintro e w3 ⟨rfl, rfl⟩)
            go_quiet (fail)
            all_goals go_wp2
            all_goals exact ⟨⟨j + 1, by omega, by go_num, ⟨hbx.os, hbx.tape, hbx.output, hbx.size, hbx.block⟩⟩, by simp [intOf]; omega⟩
          · obtain rfl : j = m := by omega
            go_wp2
            go_ret
            exact ⟨rfl, HB.out.trans (hbx.mono (by omega))⟩

set_option maxRecDepth 100000 in
set_option maxHeartbeats 4000000 in
theorem lawI_2_n (b off n cap : Nat) (zs : List Int) (k : Int) (sp : Int) (hsp : sp < 0 ∨ (n : Int) ≤ sp) (w : World) (hk : Hid (zm k = 2)) (h1 : -128 ≤ k) (h2 : k ≤ 127) (hn0 : 0 < n) (hn : n ≤ 4096) (hz : Hid (n ≤ zs.length)) (hb : b < w.heap.size) (hw : Hid (∀ j, j < n → (Lit.int .i64 (zs.getD j 0)).wf = true)) (hc : Hid (∀ j, j < n → w.cell? ⟨b, off + j, none⟩ = some (.int .i64 (zs.getD j 0)))) :
    Calls Tryz.prog 3 #[.slice (some ⟨b, off, none⟩) n cap, .int .i8 k, .int .i64 sp] w fun e w' => e = .returned (.bool true) ∧ Below w.heap.size w w' := by
  have q1 := ta_BB
  have q2 := ta_AA
  have q3 := ta_DD
  have q4 := ta_ID
  have q5 := ta_CC
  have q6 := ta_CA
  have q7 : ∀ (v : Value) (w : World), (Instr.typeAssert (.iface 74 v) 20 74 true).run Tryz.prog w = .ok (.tuple #[v, .bool true]) w := fun v w => by kernel_rfl
  have q8 : ∀ (a : Addr) (w : World), (binOp .neq 39 (.pointer (some a)) (.pointer (some a))).run Tryz.prog w = .ok (.bool false) w := fun a w => ptr_neq_same a Tryz.underlying39 (by kernel_rfl) w
  have q9 : ∀ (a : Addr) (w : World), (binOp .neq 63 (.pointer (some a)) (.pointer (some a))).run Tryz.prog w = .ok (.bool false) w := fun a w => ptr_neq_same a Tryz.underlying63 (by kernel_rfl) w
  have q10 : ∀ (a : Addr) (w : World), (binOp .neq 60 (.pointer (some a)) (.pointer (some a))).run Tryz.prog w = .ok (.bool false) w := fun a w => ptr_neq_same a Tryz.underlying60 (by kernel_rfl) w
  have hmk := madeNodes n hn
  rcases hsp with hsp | hsp
  · go_enter Tryz.func3, Tryz.ntmps3
    go_wp2_with (first | (go_at_call 7; (with_reducible refine (zbI_small _ _ _ _ _ _ (by omega)).mono ?_); rintro e w1 ⟨rfl, rfl⟩) | (go_at_call 8; (with_reducible refine (zmod_any _ _ h1 h2).mono ?_); rintro e w1 ⟨rfl, rfl⟩; rw [hk.out]) | (go_at_call 9; (with_reducible refine (typedLeft_2m _).mono ?_); rintro e w1 ⟨rfl, hL⟩))
    have hww : w.heap.size < w1.heap.size := hL.size
    have hbw : b < w1.heap.size := by have := hL.size; omega
    have hcw : Hid (∀ j, j < n → w1.cell? ⟨b, off + j, none⟩ = some (.int .i64 (zs.getD j 0))) := fun j hj => (hL.below.cell (p := ⟨b, off + j, none⟩) hb).trans (hc.out j hj)
    go_loopw [11] (fun i wr => ∃ m : Nat, m ≤ n ∧ i = .int .i64 m ∧ Filled w1 wr w1.heap.size n m (fun j => (.iface 57 (.pointer (some ⟨w1.heap.size + 1 + j, 0, none⟩)))) (fun j => .int .i64 (zs.getD j 0))) (fun i _ => n - (intOf i).toNat)
    case atStart => exact ⟨0, Nat.zero_le _, rfl, filled_start _ _ _ _⟩
    case round =>
      obtain ⟨m, hm, rfl, hF⟩ := hrel
      by_cases hmn : m < n
      · have ck := (hF.below.cell (p := ⟨b, off + m, none⟩) hbw).trans (hcw.out m hmn)
        have cE := hF.rest m (Nat.le_refl _) hmn
        have fE : wr.frozen? ⟨w1.heap.size, m, none⟩ = false := by
          rw [hF.free]; simp [World.frozen?]
        have hsz : w1.heap.size < wr.heap.size := by have := hF.size; omega
        have HF : Hid (Filled w1 wr w1.heap.size n m (fun j => (.iface 57 (.pointer (some ⟨w1.heap.size + 1 + j, 0, none⟩)))) (fun j => .int .i64 (zs.getD j 0))) := hF
        clear hF
        go_wp2
        refine ⟨⟨m + 1, by omega, by go_num, ?_⟩, by simp [intOf]; omega⟩
        rw [HF.out.size]
        exact filled_step HF.out hmn _ _ (by simp [List.getD])
      · obtain rfl : m = n := by omega
        obtain ⟨wo, rfl⟩ : ∃ wo : World, wo = wr := ⟨_, rfl⟩
        have HF : Hid (Filled w1 wo w1.heap.size m m (fun j => (.iface 57 (.pointer (some ⟨w1.heap.size + 1 + j, 0, none⟩)))) (fun j => .int .i64 (zs.getD j 0))) := hF
        have hsz : w1.heap.size < wo.heap.size := by have := hF.size; omega
        clear hF
        go_wp2_with (go_at_call 10; go_in)
        have c2r := (HF.out.below.cell (p := ⟨w.heap.size, 2, none⟩) hL.size).trans hL.c2
        refine Calls.mono (visit_string _ _ (wo.heap.size + 1 + 1) (wo.heap.size + 1) w.heap.size wo.heap.size w1.heap.size m .nilIface (w1.heap.size + 1 + 0) ?hr ?ho ?ha ?he ?cr ?c11 ?c12 ?c13 ?ca ?hn ?hn2 ?c2 ?hE) ?_
        case hr => go_size
        case ho => go_size
        case ha => go_size
        case he => go_size
        case cr => go_cell
        case c11 => go_cell
        case c12 => go_cell
        case c13 => go_cell
        case ca => go_cell
        case hn => omega
        case hn2 => omega
        case c2 => exact cell_later (by go_grown) c2r
        case hE => exact Or.inl (cell_later (by go_grown) (HF.out.done 0 hn0))
        rintro ex w2 ⟨rfl, hm⟩
        have r0 : w2.cell? ⟨wo.heap.size + 1 + 1, 0, none⟩ = some (.iface 63 (.pointer (some ⟨wo.heap.size + 1, 0, none⟩))) := hm.get (by go_size) (fun h => h) (by go_cell)
        have r11 : w2.cell? ⟨wo.heap.size + 1, 11, none⟩ = some (.string ⟨#[105, 110]⟩) := hm.get (by go_size) (fun h => h) (by go_cell)
        have r12 : w2.cell? ⟨wo.heap.size + 1, 12, none⟩ = some (.iface 39 (.pointer (some ⟨w.heap.size, 0, none⟩))) := hm.get (by go_size) (fun h => h) (by go_cell)
        have r13 : w2.cell? ⟨wo.heap.size + 1, 13, none⟩ = some (.iface 60 (.pointer (some ⟨wo.heap.size, 0, none⟩))) := hm.get (by go_size) (fun h => h) (by go_cell)
        have ra : w2.cell? ⟨wo.heap.size, 11, none⟩ = some (.slice (some ⟨w1.heap.size, 0, none⟩) m m) := hm.get (by go_size) (fun h => h) (by go_cell)
        have HE : Hid (∀ j, j < m → w2.cell? ⟨w1.heap.size, j, none⟩ = some ((fun j => (.iface 57 (.pointer (some ⟨w1.heap.size + 1 + j, 0, none⟩)))) j)) := fun j hj => hm.get (by go_size) (fun h => h) (cell_later (by go_grown) (HF.out.done j hj))
        have HV : Hid (∀ j, j < m → w2.cell? ⟨w1.heap.size + 1 + j, 11, none⟩ = some ((fun j => .int .i64 (zs.getD j 0)) j)) := fun j hj => hm.get (by have := HF.out.size; go_size) (fun h => h) (cell_later (by go_grown) (HF.out.vals j hj))
        have HC : Hid (∀ j, j < m → w2.cell? ⟨b, off + j, none⟩ = some (.int .i64 (zs.getD j 0))) := fun j hj => hm.get (by go_size) (fun h => h) (cell_later (by go_grown) ((HF.out.below.cell (p := ⟨b, off + j, none⟩) hbw).trans (hcw.out j hj)))
        have hs2 : wo.heap.size + 1 + 1 + 1 ≤ w2.heap.size := by have := hm.size; simp at this; omega
        have HB : Hid (Below w.heap.size w w2) := ((hL.below.trans (HF.out.below.mono (by have := hL.size; omega))).trans (by have := hL.size; go_grown)).trans (hm.below _ (by have := hL.size; go_size) (fun _ _ t => t.elim))
        have hEs : w1.heap.size + 1 + m ≤ w2.heap.size := by have := HF.out.size; omega
        clear hm c2r hcw hc
        go_wp2
        go_loopw [20] (fun i wx => ∃ j : Nat, j ≤ m ∧ i = .int .i64 j ∧ Below w2.heap.size w2 wx) (fun i _ => m - (intOf i).toNat)
        case atStart => exact ⟨0, Nat.zero_le _, rfl, Below.refl _ _⟩
        case round =>
          obtain ⟨j, hj, rfl, hbx⟩ := hrel
          by_cases hjm : j < m
          · have eE := (hbx.cell (p := ⟨w1.heap.size, j, none⟩) (by show w1.heap.size < _; omega)).trans (HE.out j hjm)
            have eV := (hbx.cell (p := ⟨w1.heap.size + 1 + j, 11, none⟩) (by show w1.heap.size + 1 + j < _; omega)).trans (HV.out j hjm)
            have eC := (hbx.cell (p := ⟨b, off + j, none⟩) (by show b < _; omega)).trans (HC.out j hjm)
            have eA := (hbx.cell (p := ⟨wo.heap.size, 11, none⟩) (by show wo.heap.size < _; omega)).trans ra
            go_wp2_with (go_at_call 11; (with_reducible refine (toInt_calls _ _).mono ?_); rintro e w3 ⟨rfl, rfl⟩)
            go_quiet (fail)
            all_goals go_wp2
            all_goals exact ⟨⟨j + 1, by omega, by go_num, ⟨hbx.os, hbx.tape, hbx.output, hbx.size, hbx.block⟩⟩, by simp [intOf]; omega⟩
          · obtain rfl : j = m := by omega
            go_wp2
            go_ret
            exact ⟨rfl, HB.out.trans (hbx.mono (by omega))⟩
  · have hsp0 : 0 ≤ sp := by omega
    have hd : decide (sp < (n : Int)) = false := by simpa using hsp
    go_enter Tryz.func3, Tryz.ntmps3
    go_wp2_with (first | (go_at_call 7; (with_reducible refine (zbI_small _ _ _ _ _ _ (by omega)).mono ?_); rintro e w1 ⟨rfl, rfl⟩) | (go_at_call 8; (with_reducible refine (zmod_any _ _ h1 h2).mono ?_); rintro e w1 ⟨rfl, rfl⟩; rw [hk.out]) | (go_at_call 9; (with_reducible refine (typedLeft_2m _).mono ?_); rintro e w1 ⟨rfl, hL⟩))
    have hww : w.heap.size < w1.heap.size := hL.size
    have hbw : b < w1.heap.size := by have := hL.size; omega
    have hcw : Hid (∀ j, j < n → w1.cell? ⟨b, off + j, none⟩ = some (.int .i64 (zs.getD j 0))) := fun j hj => (hL.below.cell (p := ⟨b, off + j, none⟩) hb).trans (hc.out j hj)
    go_loopw [11] (fun i wr => ∃ m : Nat, m ≤ n ∧ i = .int .i64 m ∧ Filled w1 wr w1.heap.size n m (fun j => (.iface 57 (.pointer (some ⟨w1.heap.size + 1 + j, 0, none⟩)))) (fun j => .int .i64 (zs.getD j 0))) (fun i _ => n - (intOf i).toNat)
    case atStart => exact ⟨0, Nat.zero_le _, rfl, filled_start _ _ _ _⟩
    case round =>
      obtain ⟨m, hm, rfl, hF⟩ := hrel
      by_cases hmn : m < n
      · have ck := (hF.below.cell (p := ⟨b, off + m, none⟩) hbw).trans (hcw.out m hmn)
        have cE := hF.rest m (Nat.le_refl _) hmn
        have fE : wr.frozen? ⟨w1.heap.size, m, none⟩ = false := by
          rw [hF.free]; simp [World.frozen?]
        have hsz : w1.heap.size < wr.heap.size := by have := hF.size; omega
        have HF : Hid (Filled w1 wr w1.heap.size n m (fun j => (.iface 57 (.pointer (some ⟨w1.heap.size + 1 + j, 0, none⟩)))) (fun j => .int .i64 (zs.getD j 0))) := hF
        clear hF
        go_wp2
        refine ⟨⟨m + 1, by omega, by go_num, ?_⟩, by simp [intOf]; omega⟩
        rw [HF.out.size]
        exact filled_step HF.out hmn _ _ (by simp [List.getD])
      · obtain rfl : m = n := by omega
        obtain ⟨wo, rfl⟩ : ∃ wo : World, wo = wr := ⟨_, rfl⟩
        have HF : Hid (Filled w1 wo w1.heap.size m m (fun j => (.iface 57 (.pointer (some ⟨w1.heap.size + 1 + j, 0, none⟩)))) (fun j => .int .i64 (zs.getD j 0))) := hF
        have hsz : w1.heap.size < wo.heap.size := by have := hF.size; omega
        clear hF
        go_wp2_with (go_at_call 10; go_in)
        have c2r := (HF.out.below.cell (p := ⟨w.heap.size, 2, none⟩) hL.size).trans hL.c2
        refine Calls.mono (visit_string _ _ (wo.heap.size + 1 + 1) (wo.heap.size + 1) w.heap.size wo.heap.size w1.heap.size m .nilIface (w1.heap.size + 1 + 0) ?hr ?ho ?ha ?he ?cr ?c11 ?c12 ?c13 ?ca ?hn ?hn2 ?c2 ?hE) ?_
        case hr => go_size
        case ho => go_size
        case ha => go_size
        case he => go_size
        case cr => go_cell
        case c11 => go_cell
        case c12 => go_cell
        case c13 => go_cell
        case ca => go_cell
        case hn => omega
        case hn2 => omega
        case c2 => exact cell_later (by go_grown) c2r
        case hE => exact Or.inl (cell_later (by go_grown) (HF.out.done 0 hn0))
        rintro ex w2 ⟨rfl, hm⟩
        have r0 : w2.cell? ⟨wo.heap.size + 1 + 1, 0, none⟩ = some (.iface 63 (.pointer (some ⟨wo.heap.size + 1, 0, none⟩))) := hm.get (by go_size) (fun h => h) (by go_cell)
        have r11 : w2.cell? ⟨wo.heap.size + 1, 11, none⟩ = some (.string ⟨#[105, 110]⟩) := hm.get (by go_size) (fun h => h) (by go_cell)
        have r12 : w2.cell? ⟨wo.heap.size + 1, 12, none⟩ = some (.iface 39 (.pointer (some ⟨w.heap.size, 0, none⟩))) := hm.get (by go_size) (fun h => h) (by go_cell)
        have r13 : w2.cell? ⟨wo.heap.size + 1, 13, none⟩ = some (.iface 60 (.pointer (some ⟨wo.heap.size, 0, none⟩))) := hm.get (by go_size) (fun h => h) (by go_cell)
        have ra : w2.cell? ⟨wo.heap.size, 11, none⟩ = some (.slice (some ⟨w1.heap.size, 0, none⟩) m m) := hm.get (by go_size) (fun h => h) (by go_cell)
        have HE : Hid (∀ j, j < m → w2.cell? ⟨w1.heap.size, j, none⟩ = some ((fun j => (.iface 57 (.pointer (some ⟨w1.heap.size + 1 + j, 0, none⟩)))) j)) := fun j hj => hm.get (by go_size) (fun h => h) (cell_later (by go_grown) (HF.out.done j hj))
        have HV : Hid (∀ j, j < m → w2.cell? ⟨w1.heap.size + 1 + j, 11, none⟩ = some ((fun j => .int .i64 (zs.getD j 0)) j)) := fun j hj => hm.get (by have := HF.out.size; go_size) (fun h => h) (cell_later (by go_grown) (HF.out.vals j hj))
        have HC : Hid (∀ j, j < m → w2.cell? ⟨b, off + j, none⟩ = some (.int .i64 (zs.getD j 0))) := fun j hj => hm.get (by go_size) (fun h => h) (cell_later (by go_grown) ((HF.out.below.cell (p := ⟨b, off + j, none⟩) hbw).trans (hcw.out j hj)))
        have hs2 : wo.heap.size + 1 + 1 + 1 ≤ w2.heap.size := by have := hm.size; simp at this; omega
        have HB : Hid (Below w.heap.size w w2) := ((hL.below.trans (HF.out.below.mono (by have := hL.size; omega))).trans (by have := hL.size; go_grown)).trans (hm.below _ (by have := hL.size; go_size) (fun _ _ t => t.elim))
        have hEs : w1.heap.size + 1 + m ≤ w2.heap.size := by have := HF.out.size; omega
        clear hm c2r hcw hc
        go_wp2
        go_loopw [20] (fun i wx => ∃ j : Nat, j ≤ m ∧ i = .int .i64 j ∧ Below w2.heap.size w2 wx) (fun i _ => m - (intOf i).toNat)
        case atStart => exact ⟨0, Nat.zero_le _, rfl, Below.refl _ _⟩
        case round =>
          obtain ⟨j, hj, rfl, hbx⟩ := hrel
          by_cases hjm : j < m
          · have eE := (hbx.cell (p := ⟨w1.heap.size, j, none⟩) (by show w1.heap.size < _; omega)).trans (HE.out j hjm)
            have eV := (hbx.cell (p := ⟨w1.heap.size + 1 + j, 11, none⟩) (by show w1.heap.size + 1 + j < _; omega)).trans (HV.out j hjm)
            have eC := (hbx.cell (p := ⟨b, off + j, none⟩) (by show b < _; omega)).trans (HC.out j hjm)
            have eA := (hbx.cell (p := ⟨wo.heap.size, 11, none⟩) (by show wo.heap.size < _; omega)).trans ra
            go_wp2_with (go_at_call 11; (with_reducible refine (toInt_calls _ _).mono ?_); rintro e w3 ⟨rfl, rfl⟩)
            go_quiet (fail)
            all_goals go_wp2
            all_goals exact ⟨⟨j + 1, by omega, by go_num, ⟨hbx.os, hbx.tape, hbx.output, hbx.size, hbx.block⟩⟩, by simp [intOf]; omega⟩
          · obtain rfl : j = m := by omega
            go_wp2
            go_ret
            exact ⟨rfl, HB.out.trans (hbx.mono (by omega))⟩

set_option maxRecDepth 100000 in
set_option maxHeartbeats 4000000 in
theorem lawI_0_s (b off n cap : Nat) (zs : List Int) (k : Int) (s : Nat) (hs : s < n) (w : World) (hk : Hid (zm k = 0)) (h1 : -128 ≤ k) (h2 : k ≤ 127) (hn0 : 0 < n) (hn : n ≤ 4096) (hz : Hid (n ≤ zs.length)) (hb : b < w.heap.size) (hw : Hid (∀ j, j < n → (Lit.int .i64 (zs.getD j 0)).wf = true)) (hc : Hid (∀ j, j < n → w.cell? ⟨b, off + j, none⟩ = some (.int .i64 (zs.getD j 0)))) :
    Calls Tryz.prog 3 #[.slice (some ⟨b, off, none⟩) n cap, .int .i8 k, .int .i64 (s : Nat)] w fun e w' => e = .returned (.bool true) ∧ Below w.heap.size w w' := by
  have q1 := ta_BB
  have q2 := ta_AA
  have q3 := ta_DD
  have q4 := ta_ID
  have q5 := ta_CC
  have q6 := ta_CA
  have q7 : ∀ (v : Value) (w : World), (Instr.typeAssert (.iface 74 v) 20 74 true).run Tryz.prog w = .ok (.tuple #[v, .bool true]) w := fun v w => by kernel_rfl
  have q8 : ∀ (a : Addr) (w : World), (binOp .neq 39 (.pointer (some a)) (.pointer (some a))).run Tryz.prog w = .ok (.bool false) w := fun a w => ptr_neq_same a Tryz.underlying39 (by kernel_rfl) w
  have q9 : ∀ (a : Addr) (w : World), (binOp .neq 63 (.pointer (some a)) (.pointer (some a))).run Tryz.prog w = .ok (.bool false) w := fun a w => ptr_neq_same a Tryz.underlying63 (by kernel_rfl) w
  have q10 : ∀ (a : Addr) (w : World), (binOp .neq 60 (.pointer (some a)) (.pointer (some a))).run Tryz.prog w = .ok (.bool false) w := fun a w => ptr_neq_same a Tryz.underlying60 (by kernel_rfl) w
  have hmk := madeNodes n hn
  go_enter Tryz.func3, Tryz.ntmps3
  go_wp2_with (first | (go_at_call 7; (with_reducible refine (zbI_small _ _ _ _ _ _ (by omega)).mono ?_); rintro e w1 ⟨rfl, rfl⟩) | (go_at_call 8; (with_reducible refine (zmod_any _ _ h1 h2).mono ?_); rintro e w1 ⟨rfl, rfl⟩; rw [hk.out]) | (go_at_call 9; (with_reducible refine (typedLeft_0m _).mono ?_); rintro e w1 ⟨rfl, hL⟩))
  have hww : w.heap.size < w1.heap.size := hL.size
  have hbw : b < w1.heap.size := by have := hL.size; omega
  have hcw : Hid (∀ j, j < n → w1.cell? ⟨b, off + j, none⟩ = some (.int .i64 (zs.getD j 0))) := fun j hj => (hL.below.cell (p := ⟨b, off + j, none⟩) hb).trans (hc.out j hj)
  go_loopw [11] (fun i wr => ∃ m : Nat, m ≤ n ∧ i = .int .i64 m ∧ Filled w1 wr w1.heap.size n m (fun j => if j = s then (.iface 39 (.pointer (some ⟨w1.heap.size + 1 + j, 0, none⟩))) else (.iface 57 (.pointer (some ⟨w1.heap.size + 1 + j, 0, none⟩)))) (fun j => if j = s then .string ⟨#[121]⟩ else .int .i64 (zs.getD j 0))) (fun i _ => n - (intOf i).toNat)
  case atStart => exact ⟨0, Nat.zero_le _, rfl, filled_start _ _ _ _⟩
  case round =>
    obtain ⟨m, hm, rfl, hF⟩ := hrel
    by_cases hmn : m < n
    · have ck := (hF.below.cell (p := ⟨b, off + m, none⟩) hbw).trans (hcw.out m hmn)
      have cE := hF.rest m (Nat.le_refl _) hmn
      have fE : wr.frozen? ⟨w1.heap.size, m, none⟩ = false := by
        rw [hF.free]; simp [World.frozen?]
      have hsz : w1.heap.size < wr.heap.size := by have := hF.size; omega
      have HF : Hid (Filled w1 wr w1.heap.size n m (fun j => if j = s then (.iface 39 (.pointer (some ⟨w1.heap.size + 1 + j, 0, none⟩))) else (.iface 57 (.pointer (some ⟨w1.heap.size + 1 + j, 0, none⟩)))) (fun j => if j = s then .string ⟨#[121]⟩ else .int .i64 (zs.getD j 0))) := hF
      clear hF
      by_cases hms : m = s
      · subst hms
        go_wp2
        refine ⟨⟨m + 1, by omega, by go_num, ?_⟩, by simp [intOf]; omega⟩
        rw [HF.out.size]
        have st := filled_step HF.out hmn #[.int .i64 0, .int .i64 0, .nilIface, .int .u64 0, .pointer none, .pointer none, .bool false, .bool false, .bool false, .bool false, .bool false, .string ⟨#[121]⟩] 54 (by simp)
        simp only [↓reduceIte] at st
        exact st
      · go_wp2
        refine ⟨⟨m + 1, by omega, by go_num, ?_⟩, by simp [intOf]; omega⟩
        rw [HF.out.size]
        have st := filled_step HF.out hmn #[.int .i64 0, .int .i64 0, .nilIface, .int .u64 0, .pointer none, .pointer none, .bool false, .bool false, .bool false, .bool false, .bool false, .int .i64 (zs.getD m 0)] 59 (by simp [hms])
        simp only [if_neg hms, List.getD] at st
        exact st
    · obtain rfl : m = n := by omega
      obtain ⟨wo, rfl⟩ : ∃ wo : World, wo = wr := ⟨_, rfl⟩
      have HF : Hid (Filled w1 wo w1.heap.size m m (fun j => if j = s then (.iface 39 (.pointer (some ⟨w1.heap.size + 1 + j, 0, none⟩))) else (.iface 57 (.pointer (some ⟨w1.heap.size + 1 + j, 0, none⟩)))) (fun j => if j = s then .string ⟨#[121]⟩ else .int .i64 (zs.getD j 0))) := hF
      have hsz : w1.heap.size < wo.heap.size := by have := hF.size; omega
      clear hF
      go_wp2_with (go_at_call 10; go_in)
      have c2r := (HF.out.below.cell (p := ⟨w.heap.size, 2, none⟩) hL.size).trans hL.c2
      refine Calls.mono (visit_untyped _ _ (wo.heap.size + 1 + 1) (wo.heap.size + 1) w.heap.size wo.heap.size w1.heap.size m .nilIface (w1.heap.size + 1 + 0) ?hr ?ho ?ha ?he ?cr ?c11 ?c12 ?c13 ?ca ?hn ?hn2 ?c2 ?hE) ?_
      case hr => go_size
      case ho => go_size
      case ha => go_size
      case he => go_size
      case cr => go_cell
      case c11 => go_cell
      case c12 => go_cell
      case c13 => go_cell
      case ca => go_cell
      case hn => omega
      case hn2 => omega
      case c2 => exact cell_later (by go_grown) c2r
      case hE =>
        rcases Nat.eq_zero_or_pos s with h0 | h0
        · exact Or.inr (cell_later (w := wo) (by go_grown) (by have h := HF.out.done 0 hn0; simp only [if_pos h0.symm] at h; exact h))
        · exact Or.inl (cell_later (w := wo) (by go_grown) (by have h := HF.out.done 0 hn0; simp only [if_neg (show ¬ 0 = s by omega)] at h; exact h))
      rintro ex w2 ⟨rfl, hm⟩
      have r0 : w2.cell? ⟨wo.heap.size + 1 + 1, 0, none⟩ = some (.iface 63 (.pointer (some ⟨wo.heap.size + 1, 0, none⟩))) := hm.get (by go_size) (fun h => h) (by go_cell)
      have r11 : w2.cell? ⟨wo.heap.size + 1, 11, none⟩ = some (.string ⟨#[105, 110]⟩) := hm.get (by go_size) (fun h => h) (by go_cell)
      have r12 : w2.cell? ⟨wo.heap.size + 1, 12, none⟩ = some (.iface 39 (.pointer (some ⟨w.heap.size, 0, none⟩))) := hm.get (by go_size) (fun h => h) (by go_cell)
      have r13 : w2.cell? ⟨wo.heap.size + 1, 13, none⟩ = some (.iface 60 (.pointer (some ⟨wo.heap.size, 0, none⟩))) := hm.get (by go_size) (fun h => h) (by go_cell)
      have ra : w2.cell? ⟨wo.heap.size, 11, none⟩ = some (.slice (some ⟨w1.heap.size, 0, none⟩) m m) := hm.get (by go_size) (fun h => h) (by go_cell)
      have HE : Hid (∀ j, j < m → w2.cell? ⟨w1.heap.size, j, none⟩ = some ((fun j => if j = s then (.iface 39 (.pointer (some ⟨w1.heap.size + 1 + j, 0, none⟩))) else (.iface 57 (.pointer (some ⟨w1.heap.size + 1 + j, 0, none⟩)))) j)) := fun j hj => hm.get (by go_size) (fun h => h) (cell_later (by go_grown) (HF.out.done j hj))
      have HV : Hid (∀ j, j < m → w2.cell? ⟨w1.heap.size + 1 + j, 11, none⟩ = some ((fun j => if j = s then .string ⟨#[121]⟩ else .int .i64 (zs.getD j 0)) j)) := fun j hj => hm.get (by have := HF.out.size; go_size) (fun h => h) (cell_later (by go_grown) (HF.out.vals j hj))
      have HC : Hid (∀ j, j < m → w2.cell? ⟨b, off + j, none⟩ = some (.int .i64 (zs.getD j 0))) := fun j hj => hm.get (by go_size) (fun h => h) (cell_later (by go_grown) ((HF.out.below.cell (p := ⟨b, off + j, none⟩) hbw).trans (hcw.out j hj)))
      have hs2 : wo.heap.size + 1 + 1 + 1 ≤ w2.heap.size := by have := hm.size; simp at this; omega
      have HB : Hid (Below w.heap.size w w2) := ((hL.below.trans (HF.out.below.mono (by have := hL.size; omega))).trans (by have := hL.size; go_grown)).trans (hm.below _ (by have := hL.size; go_size) (fun _ _ t => t.elim))
      have hEs : w1.heap.size + 1 + m ≤ w2.heap.size := by have := HF.out.size; omega
      clear hm c2r hcw hc
      go_wp2
      go_loopw [20] (fun i wx => ∃ j : Nat, j ≤ m ∧ i = .int .i64 j ∧ Below w2.heap.size w2 wx) (fun i _ => m - (intOf i).toNat)
      case atStart => exact ⟨0, Nat.zero_le _, rfl, Below.refl _ _⟩
      case round =>
        obtain ⟨j, hj, rfl, hbx⟩ := hrel
        by_cases hjm : j < m
        · have eE := (hbx.cell (p := ⟨w1.heap.size, j, none⟩) (by show w1.heap.size < _; omega)).trans (HE.out j hjm)
          have eV := (hbx.cell (p := ⟨w1.heap.size + 1 + j, 11, none⟩) (by show w1.heap.size + 1 + j < _; omega)).trans (HV.out j hjm)
          have eC := (hbx.cell (p := ⟨b, off + j, none⟩) (by show b < _; omega)).trans (HC.out j hjm)
          have eA := (hbx.cell (p := ⟨wo.heap.size, 11, none⟩) (by show wo.heap.size < _; omega)).trans ra
          by_cases hjs : j = s
          · subst hjs
            simp only [↓reduceIte] at eE eV
            go_wp2
            exact ⟨⟨j + 1, by omega, by go_num, hbx⟩, by simp [intOf]; omega⟩
          · simp only [if_neg hjs] at eE eV
            go_wp2_with (go_at_call 11; (with_reducible refine (toInt_calls _ _).mono ?_); rintro e w3 ⟨rfl, rfl⟩)
            go_quiet (fail)
            all_goals go_wp2
            all_goals exact ⟨⟨j + 1, by omega, by go_num, ⟨hbx.os, hbx.tape, hbx.output, hbx.size, hbx.block⟩⟩, by simp [intOf]; omega⟩
        · obtain rfl : j = m := by omega
          go_wp2
          go_ret
          exact ⟨rfl, HB.out.trans (hbx.mono (by omega))⟩

set_option maxRecDepth 100000 in
set_option maxHeartbeats 4000000 in
theorem lawI_1_s (b off n cap : Nat) (zs : List Int) (k : Int) (s : Nat) (hs : s < n) (w : World) (hk : Hid (zm k = 1)) (h1 : -128 ≤ k) (h2 : k ≤ 127) (hn0 : 0 < n) (hn : n ≤ 4096) (hz : Hid (n ≤ zs.length)) (hb : b < w.heap.size) (hw : Hid (∀ j, j < n → (Lit.int .i64 (zs.getD j 0)).wf = true)) (hc : Hid (∀ j, j < n → w.cell? ⟨b, off + j, none⟩ = some (.int .i64 (zs.getD j 0)))) :
    Calls Tryz.prog 3 #[.slice (some ⟨b, off, none⟩) n cap, .int .i8 k, .int .i64 (s : Nat)] w fun e w' => e = .returned (.bool true) ∧ Below w.heap.size w w' := by
  have q1 := ta_BB
  have q2 := ta_AA
  have q3 := ta_DD
  have q4 := ta_ID
  have q5 := ta_CC
  have q6 := ta_CA
  have q7 : ∀ (v : Value) (w : World), (Instr.typeAssert (.iface 74 v) 20 74 true).run Tryz.prog w = .ok (.tuple #[v, .bool true]) w := fun v w => by kernel_rfl
  have q8 : ∀ (a : Addr) (w : World), (binOp .neq 39 (.pointer (some a)) (.pointer (some a))).run Tryz.prog w = .ok (.bool false) w := fun a w => ptr_neq_same a Tryz.underlying39 (by kernel_rfl) w
  have q9 : ∀ (a : Addr) (w : World), (binOp .neq 63 (.pointer (some a)) (.pointer (some a))).run Tryz.prog w = .ok (.bool false) w := fun a w => ptr_neq_same a Tryz.underlying63 (by kernel_rfl) w
  have q10 : ∀ (a : Addr) (w : World), (binOp .neq 60 (.pointer (some a)) (.pointer (some a))).run Tryz.prog w = .ok (.bool false) w := fun a w => ptr_neq_same a Tryz.underlying60 (by kernel_rfl) w
  have hmk := madeNodes n hn
  go_enter Tryz.func3, Tryz.ntmps3
  go_wp2_with (first | (go_at_call 7; (with_reducible refine (zbI_small _ _ _ _ _ _ (by omega)).mono ?_); rintro e w1 ⟨rfl, rfl⟩) | (go_at_call 8; (with_reducible refine (zmod_any _ _ h1 h2).mono ?_); rintro e w1 ⟨rfl, rfl⟩; rw [hk.out]) | (go_at_call 9; (with_reducible refine (typedLeft_1m _).mono ?_); rintro e w1 ⟨rfl, hL⟩))
  have hww : w.heap.size < w1.heap.size := hL.size
  have hbw : b < w1.heap.size := by have := hL.size; omega
  have hcw : Hid (∀ j, j < n → w1.cell? ⟨b, off + j, none⟩ = some (.int .i64 (zs.getD j 0))) := fun j hj => (hL.below.cell (p := ⟨b, off + j, none⟩) hb).trans (hc.out j hj)
  go_loopw [11] (fun i wr => ∃ m : Nat, m ≤ n ∧ i = .int .i64 m ∧ Filled w1 wr w1.heap.size n m (fun j => if j = s then (.iface 39 (.pointer (some ⟨w1.heap.size + 1 + j, 0, none⟩))) else (.iface 57 (.pointer (some ⟨w1.heap.size + 1 + j, 0, none⟩)))) (fun j => if j = s then .string ⟨#[121]⟩ else .int .i64 (zs.getD j 0))) (fun i _ => n - (intOf i).toNat)
  case atStart => exact ⟨0, Nat.zero_le _, rfl, filled_start _ _ _ _⟩
  case round =>
    obtain ⟨m, hm, rfl, hF⟩ := hrel
    by_cases hmn : m < n
    · have ck := (hF.below.cell (p := ⟨b, off + m, none⟩) hbw).trans (hcw.out m hmn)
      have cE := hF.rest m (Nat.le_refl _) hmn
      have fE : wr.frozen? ⟨w1.heap.size, m, none⟩ = false := by
        rw [hF.free]; simp [World.frozen?]
      have hsz : w1.heap.size < wr.heap.size := by have := hF.size; omega
      have HF : Hid (Filled w1 wr w1.heap.size n m (fun j => if j = s then (.iface 39 (.pointer (some ⟨w1.heap.size + 1 + j, 0, none⟩))) else (.iface 57 (.pointer (some ⟨w1.heap.size + 1 + j, 0, none⟩)))) (fun j => if j = s then .string ⟨#[121]⟩ else .int .i64 (zs.getD j 0))) := hF
      clear hF
      by_cases hms : m = s
      · subst hms
        go_wp2
        refine ⟨⟨m + 1, by omega, by go_num, ?_⟩, by simp [intOf]; omega⟩
        rw [HF.out.size]
        have st := filled_step HF.out hmn #[.int .i64 0, .int .i64 0, .nilIface, .int .u64 0, .pointer none, .pointer none, .bool false, .bool false, .bool false, .bool false, .bool false, .string ⟨#[121]⟩] 54 (by simp)
        simp only [↓reduceIte] at st
        exact st
      · go_wp2
        refine ⟨⟨m + 1, by omega, by go_num, ?_⟩, by simp [intOf]; omega⟩
        rw [HF.out.size]
        have st := filled_step HF.out hmn #[.int .i64 0, .int .i64 0, .nilIface, .int .u64 0, .pointer none, .pointer none, .bool false, .bool false, .bool false, .bool false, .bool false, .int .i64 (zs.getD m 0)] 59 (by simp [hms])
        simp only [if_neg hms, List.getD] at st
        exact st
    · obtain rfl : m = n := by omega
      obtain ⟨wo, rfl⟩ : ∃ wo : World, wo = wr := ⟨_, rfl⟩
      have HF : Hid (Filled w1 wo w1.heap.size m m (fun j => if j = s then (.iface 39 (.pointer (some ⟨w1.heap.size + 1 + j, 0, none⟩))) else (.iface 57 (.pointer (some ⟨w1.heap.size + 1 + j, 0, none⟩)))) (fun j => if j = s then .string ⟨#[121]⟩ else .int .i64 (zs.getD j 0))) := hF
      have hsz : w1.heap.size < wo.heap.size := by have := hF.size; omega
      clear hF
      go_wp2_with (go_at_call 10; go_in)
      have c2r := (HF.out.below.cell (p := ⟨w.heap.size, 2, none⟩) hL.size).trans hL.c2
      refine Calls.mono (visit_spoiled _ _ (wo.heap.size + 1 + 1) (wo.heap.size + 1) w.heap.size wo.heap.size w1.heap.size m .nilIface (w1.heap.size + 1 ) ?hr ?ho ?ha ?he ?cr ?c11 ?c12 ?c13 ?ca ?hn ?hn2 ?c2 s hs ?hI ?hD) ?_
      case hr => go_size
      case ho => go_size
      case ha => go_size
      case he => go_size
      case cr => go_cell
      case c11 => go_cell
      case c12 => go_cell
      case c13 => go_cell
      case ca => go_cell
      case hn => omega
      case hn2 => omega
      case c2 => exact cell_later (by go_grown) c2r
      case hI =>
        intro j hj
        refine cell_later (w := wo) (by go_grown) ?_
        have h := HF.out.done j (by omega)
        simp only [if_neg (show ¬ j = s by omega)] at h
        exact h
      case hD =>
        refine cell_later (w := wo) (by go_grown) ?_
        have h := HF.out.done s hs
        simp only [↓reduceIte] at h
        exact h
      rintro ex w2 ⟨rfl, hm⟩
      have r0 : w2.cell? ⟨wo.heap.size + 1 + 1, 0, none⟩ = some (.iface 63 (.pointer (some ⟨wo.heap.size + 1, 0, none⟩))) := hm.get (by go_size) (fun h => h) (by go_cell)
      have r11 : w2.cell? ⟨wo.heap.size + 1, 11, none⟩ = some (.string ⟨#[105, 110]⟩) := hm.get (by go_size) (fun h => h) (by go_cell)
      have r12 : w2.cell? ⟨wo.heap.size + 1, 12, none⟩ = some (.iface 39 (.pointer (some ⟨w.heap.size, 0, none⟩))) := hm.get (by go_size) (fun h => h) (by go_cell)
      have r13 : w2.cell? ⟨wo.heap.size + 1, 13, none⟩ = some (.iface 60 (.pointer (some ⟨wo.heap.size, 0, none⟩))) := hm.get (by go_size) (fun h => h) (by go_cell)
      have ra : w2.cell? ⟨wo.heap.size, 11, none⟩ = some (.slice (some ⟨w1.heap.size, 0, none⟩) m m) := hm.get (by go_size) (fun h => h) (by go_cell)
      have HE : Hid (∀ j, j < m → w2.cell? ⟨w1.heap.size, j, none⟩ = some ((fun j => if j = s then (.iface 39 (.pointer (some ⟨w1.heap.size + 1 + j, 0, none⟩))) else (.iface 57 (.pointer (some ⟨w1.heap.size + 1 + j, 0, none⟩)))) j)) := fun j hj => hm.get (by go_size) (fun h => h) (cell_later (by go_grown) (HF.out.done j hj))
      have HV : Hid (∀ j, j < m → w2.cell? ⟨w1.heap.size + 1 + j, 11, none⟩ = some ((fun j => if j = s then .string ⟨#[121]⟩ else .int .i64 (zs.getD j 0)) j)) := fun j hj => hm.get (by have := HF.out.size; go_size) (fun h => h) (cell_later (by go_grown) (HF.out.vals j hj))
      have HC : Hid (∀ j, j < m → w2.cell? ⟨b, off + j, none⟩ = some (.int .i64 (zs.getD j 0))) := fun j hj => hm.get (by go_size) (fun h => h) (cell_later (by go_grown) ((HF.out.below.cell (p := ⟨b, off + j, none⟩) hbw).trans (hcw.out j hj)))
      have hs2 : wo.heap.size + 1 + 1 + 1 ≤ w2.heap.size := by have := hm.size; simp at this; omega
      have HB : Hid (Below w.heap.size w w2) := ((hL.below.trans (HF.out.below.mono (by have := hL.size; omega))).trans (by have := hL.size; go_grown)).trans (hm.below _ (by have := hL.size; go_size) (fun _ _ t => t.elim))
      have hEs : w1.heap.size + 1 + m ≤ w2.heap.size := by have := HF.out.size; omega
      clear hm c2r hcw hc
      go_wp2
      go_loopw [20] (fun i wx => ∃ j : Nat, j ≤ m ∧ i = .int .i64 j ∧ Below w2.heap.size w2 wx) (fun i _ => m - (intOf i).toNat)
      case atStart => exact ⟨0, Nat.zero_le _, rfl, Below.refl _ _⟩
      case round =>
        obtain ⟨j, hj, rfl, hbx⟩ := hrel
        by_cases hjm : j < m
        · have eE := (hbx.cell (p := ⟨w1.heap.size, j, none⟩) (by show w1.heap.size < _; omega)).trans (HE.out j hjm)
          have eV := (hbx.cell (p := ⟨w1.heap.size + 1 + j, 11, none⟩) (by show w1.heap.size + 1 + j < _; omega)).trans (HV.out j hjm)
          have eC := (hbx.cell (p := ⟨b, off + j, none⟩) (by show b < _; omega)).trans (HC.out j hjm)
          have eA := (hbx.cell (p := ⟨wo.heap.size, 11, none⟩) (by show wo.heap.size < _; omega)).trans ra
          by_cases hjs : j = s
          · subst hjs
            simp only [↓reduceIte] at eE eV
            go_wp2
            exact ⟨⟨j + 1, by omega, by go_num, hbx⟩, by simp [intOf]; omega⟩
          · simp only [if_neg hjs] at eE eV
            go_wp2_with (go_at_call 11; (with_reducible refine (toInt_calls _ _).mono ?_); rintro e w3 ⟨rfl, rfl⟩)
            go_quiet (fail)
            all_goals go_wp2
            all_goals exact ⟨⟨j + 1, by omega, by go_num, ⟨hbx.os, hbx.tape, hbx.output, hbx.size, hbx.block⟩⟩, by simp [intOf]; omega⟩
        · obtain rfl : j = m := by omega
          go_wp2
          go_ret
          exact ⟨rfl, HB.out.trans (hbx.mono (by omega))⟩

set_option maxRecDepth 100000 in
set_option maxHeartbeats 4000000 in
theorem lawI_2_s (b off n cap : Nat) (zs : List Int) (k : Int) (s : Nat) (hs : s < n) (w : World) (hk : Hid (zm k = 2)) (h1 : -128 ≤ k) (h2 : k ≤ 127) (hn0 : 0 < n) (hn : n ≤ 4096) (hz : Hid (n ≤ zs.length)) (hb : b < w.heap.size) (hw : Hid (∀ j, j < n → (Lit.int .i64 (zs.getD j 0)).wf = true)) (hc : Hid (∀ j, j < n → w.cell? ⟨b, off + j, none⟩ = some (.int .i64 (zs.getD j 0)))) :
    Calls Tryz.prog 3 #[.slice (some ⟨b, off, none⟩) n cap, .int .i8 k, .int .i64 (s : Nat)] w fun e w' => e = .returned (.bool true) ∧ Below w.heap.size w w' := by
  have q1 := ta_BB
  have q2 := ta_AA
  have q3 := ta_DD
  have q4 := ta_ID
  have q5 := ta_CC
  have q6 := ta_CA
  have q7 : ∀ (v : Value) (w : World), (Instr.typeAssert (.iface 74 v) 20 74 true).run Tryz.prog w = .ok (.tuple #[v, .bool true]) w := fun v w => by kernel_rfl
  have q8 : ∀ (a : Addr) (w : World), (binOp .neq 39 (.pointer (some a)) (.pointer (some a))).run Tryz.prog w = .ok (.bool false) w := fun a w => ptr_neq_same a Tryz.underlying39 (by kernel_rfl) w
  have q9 : ∀ (a : Addr) (w : World), (binOp .neq 63 (.pointer (some a)) (.pointer (some a))).run Tryz.prog w = .ok (.bool false) w := fun a w => ptr_neq_same a Tryz.underlying63 (by kernel_rfl) w
  have q10 : ∀ (a : Addr) (w : World), (binOp .neq 60 (.pointer (some a)) (.pointer (some a))).run Tryz.prog w = .ok (.bool false) w := fun a w => ptr_neq_same a Tryz.underlying60 (by kernel_rfl) w
  have hmk := madeNodes n hn
  go_enter Tryz.func3, Tryz.ntmps3
  go_wp2_with (first | (go_at_call 7; (with_reducible refine (zbI_small _ _ _ _ _ _ (by omega)).mono ?_); rintro e w1 ⟨rfl, rfl⟩) | (go_at_call 8; (with_reducible refine (zmod_any _ _ h1 h2).mono ?_); rintro e w1 ⟨rfl, rfl⟩; rw [hk.out]) | (go_at_call 9; (with_reducible refine (typedLeft_2m _).mono ?_); rintro e w1 ⟨rfl, hL⟩))
  have hww : w.heap.size < w1.heap.size := hL.size
  have hbw : b < w1.heap.size := by have := hL.size; omega
  have hcw : Hid (∀ j, j < n → w1.cell? ⟨b, off + j, none⟩ = some (.int .i64 (zs.getD j 0))) := fun j hj => (hL.below.cell (p := ⟨b, off + j, none⟩) hb).trans (hc.out j hj)
  go_loopw [11] (fun i wr => ∃ m : Nat, m ≤ n ∧ i = .int .i64 m ∧ Filled w1 wr w1.heap.size n m (fun j => if j = s then (.iface 39 (.pointer (some ⟨w1.heap.size + 1 + j, 0, none⟩))) else (.iface 57 (.pointer (some ⟨w1.heap.size + 1 + j, 0, none⟩)))) (fun j => if j = s then .string ⟨#[121]⟩ else .int .i64 (zs.getD j 0))) (fun i _ => n - (intOf i).toNat)
  case atStart => exact ⟨0, Nat.zero_le _, rfl, filled_start _ _ _ _⟩
  case round =>
    obtain ⟨m, hm, rfl, hF⟩ := hrel
    by_cases hmn : m < n
    · have ck := (hF.below.cell (p := ⟨b, off + m, none⟩) hbw).trans (hcw.out m hmn)
      have cE := hF.rest m (Nat.le_refl _) hmn
      have fE : wr.frozen? ⟨w1.heap.size, m, none⟩ = false := by
        rw [hF.free]; simp [World.frozen?]
      have hsz : w1.heap.size < wr.heap.size := by have := hF.size; omega
      have HF : Hid (Filled w1 wr w1.heap.size n m (fun j => if j = s then (.iface 39 (.pointer (some ⟨w1.heap.size + 1 + j, 0, none⟩))) else (.iface 57 (.pointer (some ⟨w1.heap.size + 1 + j, 0, none⟩)))) (fun j => if j = s then .string ⟨#[121]⟩ else .int .i64 (zs.getD j 0))) := hF
      clear hF
      by_cases hms : m = s
      · subst hms
        go_wp2
        refine ⟨⟨m + 1, by omega, by go_num, ?_⟩, by simp [intOf]; omega⟩
        rw [HF.out.size]
        have st := filled_step HF.out hmn #[.int .i64 0, .int .i64 0, .nilIface, .int .u64 0, .pointer none, .pointer none, .bool false, .bool false, .bool false, .bool false, .bool false, .string ⟨#[121]⟩] 54 (by simp)
        simp only [↓reduceIte] at st
        exact st
      · go_wp2
        refine ⟨⟨m + 1, by omega, by go_num, ?_⟩, by simp [intOf]; omega⟩
        rw [HF.out.size]
        have st := filled_step HF.out hmn #[.int .i64 0, .int .i64 0, .nilIface, .int .u64 0, .pointer none, .pointer none, .bool false, .bool false, .bool false, .bool false, .bool false, .int .i64 (zs.getD m 0)] 59 (by simp [hms])
        simp only [if_neg hms, List.getD] at st
        exact st
    · obtain rfl : m = n := by omega
      obtain ⟨wo, rfl⟩ : ∃ wo : World, wo = wr := ⟨_, rfl⟩
      have HF : Hid (Filled w1 wo w1.heap.size m m (fun j => if j = s then (.iface 39 (.pointer (some ⟨w1.heap.size + 1 + j, 0, none⟩))) else (.iface 57 (.pointer (some ⟨w1.heap.size + 1 + j, 0, none⟩)))) (fun j => if j = s then .string ⟨#[121]⟩ else .int .i64 (zs.getD j 0))) := hF
      have hsz : w1.heap.size < wo.heap.size := by have := hF.size; omega
      clear hF
      go_wp2_with (go_at_call 10; go_in)
      have c2r := (HF.out.below.cell (p := ⟨w.heap.size, 2, none⟩) hL.size).trans hL.c2
      refine Calls.mono (visit_string _ _ (wo.heap.size + 1 + 1) (wo.heap.size + 1) w.heap.size wo.heap.size w1.heap.size m .nilIface (w1.heap.size + 1 + 0) ?hr ?ho ?ha ?he ?cr ?c11 ?c12 ?c13 ?ca ?hn ?hn2 ?c2 ?hE) ?_
      case hr => go_size
      case ho => go_size
      case ha => go_size
      case he => go_size
      case cr => go_cell
      case c11 => go_cell
      case c12 => go_cell
      case c13 => go_cell
      case ca => go_cell
      case hn => omega
      case hn2 => omega
      case c2 => exact cell_later (by go_grown) c2r
      case hE =>
        rcases Nat.eq_zero_or_pos s with h0 | h0
        · exact Or.inr (cell_later (w := wo) (by go_grown) (by have h := HF.out.done 0 hn0; simp only [if_pos h0.symm] at h; exact h))
        · exact Or.inl (cell_later (w := wo) (by go_grown) (by have h := HF.out.done 0 hn0; simp only [if_neg (show ¬ 0 = s by omega)] at h; exact h))
      rintro ex w2 ⟨rfl, hm⟩
      have r0 : w2.cell? ⟨wo.heap.size + 1 + 1, 0, none⟩ = some (.iface 63 (.pointer (some ⟨wo.heap.size + 1, 0, none⟩))) := hm.get (by go_size) (fun h => h) (by go_cell)
      have r11 : w2.cell? ⟨wo.heap.size + 1, 11, none⟩ = some (.string ⟨#[105, 110]⟩) := hm.get (by go_size) (fun h => h) (by go_cell)
      have r12 : w2.cell? ⟨wo.heap.size + 1, 12, none⟩ = some (.iface 39 (.pointer (some ⟨w.heap.size, 0, none⟩))) := hm.get (by go_size) (fun h => h) (by go_cell)
      have r13 : w2.cell? ⟨wo.heap.size + 1, 13, none⟩ = some (.iface 60 (.pointer (some ⟨wo.heap.size, 0, none⟩))) := hm.get (by go_size) (fun h => h) (by go_cell)
      have ra : w2.cell? ⟨wo.heap.size, 11, none⟩ = some (.slice (some ⟨w1.heap.size, 0, none⟩) m m) := hm.get (by go_size) (fun h => h) (by go_cell)
      have HE : Hid (∀ j, j < m → w2.cell? ⟨w1.heap.size, j, none⟩ = some ((fun j => if j = s then (.iface 39 (.pointer (some ⟨w1.heap.size + 1 + j, 0, none⟩))) else (.iface 57 (.pointer (some ⟨w1.heap.size + 1 + j, 0, none⟩)))) j)) := fun j hj => hm.get (by go_size) (fun h => h) (cell_later (by go_grown) (HF.out.done j hj))
      have HV : Hid (∀ j, j < m → w2.cell? ⟨w1.heap.size + 1 + j, 11, none⟩ = some ((fun j => if j = s then .string ⟨#[121]⟩ else .int .i64 (zs.getD j 0)) j)) := fun j hj => hm.get (by have := HF.out.size; go_size) (fun h => h) (cell_later (by go_grown) (HF.out.vals j hj))
      have HC : Hid (∀ j, j < m → w2.cell? ⟨b, off + j, none⟩ = some (.int .i64 (zs.getD j 0))) := fun j hj => hm.get (by go_size) (fun h => h) (cell_later (by go_grown) ((HF.out.below.cell (p := ⟨b, off + j, none⟩) hbw).trans (hcw.out j hj)))
      have hs2 : wo.heap.size + 1 + 1 + 1 ≤ w2.heap.size := by have := hm.size; simp at this; omega
      have HB : Hid (Below w.heap.size w w2) := ((hL.below.trans (HF.out.below.mono (by have := hL.size; omega))).trans (by have := hL.size; go_grown)).trans (hm.below _ (by have := hL.size; go_size) (fun _ _ t => t.elim))
      have hEs : w1.heap.size + 1 + m ≤ w2.heap.size := by have := HF.out.size; omega
      clear hm c2r hcw hc
      go_wp2
      go_loopw [20] (fun i wx => ∃ j : Nat, j ≤ m ∧ i = .int .i64 j ∧ Below w2.heap.size w2 wx) (fun i _ => m - (intOf i).toNat)
      case atStart => exact ⟨0, Nat.zero_le _, rfl, Below.refl _ _⟩
      case round =>
        obtain ⟨j, hj, rfl, hbx⟩ := hrel
        by_cases hjm : j < m
        · have eE := (hbx.cell (p := ⟨w1.heap.size, j, none⟩) (by show w1.heap.size < _; omega)).trans (HE.out j hjm)
          have eV := (hbx.cell (p := ⟨w1.heap.size + 1 + j, 11, none⟩) (by show w1.heap.size + 1 + j < _; omega)).trans (HV.out j hjm)
          have eC := (hbx.cell (p := ⟨b, off + j, none⟩) (by show b < _; omega)).trans (HC.out j hjm)
          have eA := (hbx.cell (p := ⟨wo.heap.size, 11, none⟩) (by show wo.heap.size < _; omega)).trans ra
          by_cases hjs : j = s
          · subst hjs
            simp only [↓reduceIte] at eE eV
            go_wp2
            exact ⟨⟨j + 1, by omega, by go_num, hbx⟩, by simp [intOf]; omega⟩
          · simp only [if_neg hjs] at eE eV
            go_wp2_with (go_at_call 11; (with_reducible refine (toInt_calls _ _).mono ?_); rintro e w3 ⟨rfl, rfl⟩)
            go_quiet (fail)
            all_goals go_wp2
            all_goals exact ⟨⟨j + 1, by omega, by go_num, ⟨hbx.os, hbx.tape, hbx.output, hbx.size, hbx.block⟩⟩, by simp [intOf]; omega⟩
        · obtain rfl : j = m := by omega
          go_wp2
          go_ret
          exact ⟨rfl, HB.out.trans (hbx.mono (by omega))⟩
end Go.Proofs.YthhijnemlhjpgaaGreat

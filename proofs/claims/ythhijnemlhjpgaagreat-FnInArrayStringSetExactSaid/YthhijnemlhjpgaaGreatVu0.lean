/-
  What is proved here: inArray.Visit on an array of string literals: the root cell holds a new 'in' node over the set of the strings.
-/
import Derived.Test.YthhijnemlhjpgaaGreatVt
namespace Go.Proofs.YthhijnemlhjpgaaGreat
open Go.ChangeShapes Go.WideShapes Go.ChangeAt Go.RowKit Go.Extern
open Go.Maps (setOf Keyed)
set_option linter.unusedVariables false
set_option linter.unusedSimpArgs false

set_option maxRecDepth 100000 in
set_option maxHeartbeats 2000000 in
theorem visitS_all_0 (W : World) (u r o l a e n p0 : Nat) (ss : List ByteArray) (hr : r < W.heap.size) (ho : o < W.heap.size) (hl : l < W.heap.size) (ha : a < W.heap.size) (hee : e < W.heap.size) (hp : p0 + n ≤ W.heap.size) (hro : ¬ r = o) (hra : ¬ r = a) (hre : ¬ r = e) (hrl : ¬ r = l)
    (cr : W.cell? ⟨r, 0, none⟩ = some (.iface 63 (.pointer (some ⟨o, 0, none⟩)))) (fr : W.frozen? ⟨r, 0, none⟩ = false) (o0 : W.cell? ⟨o, 0, none⟩ = some (.int .i64 0)) (o1 : W.cell? ⟨o, 1, none⟩ = some (.int .i64 0)) (o2 : W.cell? ⟨o, 2, none⟩ = some .nilIface)
    (c11 : W.cell? ⟨o, 11, none⟩ = some (.string ⟨#[105, 110]⟩)) (c12 : W.cell? ⟨o, 12, none⟩ = some (.iface 39 (.pointer (some ⟨l, 0, none⟩)))) (c13 : W.cell? ⟨o, 13, none⟩ = some (.iface 60 (.pointer (some ⟨a, 0, none⟩))))
    (ca : W.cell? ⟨a, 11, none⟩ = some (.slice (some ⟨e, 0, none⟩) n n)) (c2 : W.cell? ⟨l, 2, none⟩ = some (.nilIface))
    (hn : 0 < n) (hn2 : n ≤ 4096) (hz : Hid (ss.length = n)) (hw : Hid (∀ j, j < n → (ss.getD j ByteArray.empty).size ≤ maxLen)) (hI : Hid (∀ j, j < n → W.cell? ⟨e, j, none⟩ = some (.iface 83 (.pointer (some ⟨p0 + j, 0, none⟩))))) (hV : Hid (∀ j, j < n → W.cell? ⟨p0 + j, 11, none⟩ = some (.string (ss.getD j ByteArray.empty)))) :
    Calls Tryz.prog 24 #[.pointer (some ⟨u, 0, none⟩), .pointer (some ⟨r, 0, none⟩)] W fun e w' => e = .returned (.tuple #[]) ∧ ModB (TR r) W w' ∧ SetAt w' r l n (setS ss n) 9 86 := by
  have q1 := ta_BB
  have q2 := ta_AA
  have q3 := ta_SS
  have q4 := ta_DS
  have q5 := ta_SI
  have q6 := ta_DI
  have q7 := tp_S
  have t1 := invokeKind
  have t2 := kind_any
  have t3 := nilKind
  have t4 := rt_eq_nil
  have t5 := typeOf_ms
  have hmm := @run_makeMap Tryz.prog
  go_enter Tryz.func24, Tryz.ntmps24
  go_wp2
  refine wp_scope_forward 0 rfl ?_
  go_wp2_with (first | (go_at_call 20; go_call (type_none _ _) as ex w1 ⟨rfl, rfl⟩))
  go_step3
  refine ⟨rfl, ?_⟩
  go_wp2
  go_loop [128] (fun i => ∃ k : Nat, k ≤ n ∧ i = .int .i64 k) (fun i => n - (intOf i).toNat)
  case atStart => exact ⟨0, Nat.zero_le _, rfl⟩
  case round =>
    obtain ⟨k, hk, rfl⟩ := hrel
    by_cases hks : k < n
    · have hc := hI.out k hks
      go_wp2
      exact ⟨⟨k + 1, by omega, by go_num⟩, by simp [intOf]; omega⟩
    · obtain rfl : k = n := by omega
      clear hk
      go_wp2
      go_loopw [146] (fun i wr => ∃ k2 : Nat, k2 ≤ k ∧ i = .int .i64 k2 ∧ wr.ownsMap Tryz.prog 9 (unitElem (H := Unit)) (W.heap.size + 1) k2 (setS ss k2) ∧ Below W.heap.size W wr ∧ (W.heap.size + 1) < wr.heap.size)
        (fun i _ => k - (intOf i).toNat)
      case atStart => exact ⟨0, Nat.zero_le _, rfl, by rw [setS_zero]; exact (by have h := World.ownsMap_made (W.alloc (.cells #[.nilIface] 20)) Tryz.prog 9 (unitElem (H := Unit)); simpa using h), ((Below.refl _ _).alloc (Nat.le_refl _) _).alloc (by simp) _, by simp⟩
      case round =>
        obtain ⟨k2, hk2, rfl, hown, hnx, hq0⟩ := hrel
        by_cases hlt : k2 < k
        · have hc := (hnx.cell (p := ⟨e, k2, none⟩) hee).trans (hI.out k2 hlt)
          have hv := (hnx.cell (p := ⟨p0 + k2, 11, none⟩) (by show p0 + k2 < _; omega)).trans (hV.out k2 hlt)
          have hkey := Lib.hid (Go.WideMaps.keyOf_string_mk Tryz.underlying9 (hw.out k2 hlt))
          go_wp2_with (at_mapUpdate; refine wpList_mapUpdate_own _ rfl _ _ _ 86 rfl 9 79 lawS Tryz.underlying86 (unitElem (H := Unit)) (W.heap.size + 1) k2 _ rfl hown (by unfold maxLen; omega) _ _ _ rfl rfl hkey.out _ [] unitElem_mk ?_; intro w1 hown1 hgrow1)
          go_roundw
          case rel => exact ⟨k2 + 1, by omega, by go_num, (setS_succ ss k2 (by have := hz.out; omega)).symm ▸ hown1, hnx.grown hgrow1 hnx.size (fun j hj => by cases hj; omega), by have := hgrow1.size; omega⟩
          case measure => simp [intOf]; omega
        · obtain rfl : k2 = k := by omega
          clear hk2
          have hs0 := hnx.size
          have hcr := (hnx.cell (p := ⟨r, 0, none⟩) hr).trans cr
          have hfr := (hnx.frozen (p := ⟨r, 0, none⟩) hr).trans fr
          have ho0 := (hnx.cell (p := ⟨o, 0, none⟩) ho).trans o0
          have ho1 := (hnx.cell (p := ⟨o, 1, none⟩) ho).trans o1
          have ho2 := (hnx.cell (p := ⟨o, 2, none⟩) ho).trans o2
          have ho11 := (hnx.cell (p := ⟨o, 11, none⟩) ho).trans c11
          have ho12 := (hnx.cell (p := ⟨o, 12, none⟩) ho).trans c12
          have Hr : r < wr.heap.size := by omega
          have Ho : o < wr.heap.size := by omega
          clear cr fr o0 o1 o2 c11 c12 c13 ca c2
          go_wp2
          go_region_with (go_at_call 32; go_call (setType_ms_m (TB wr.heap.size) wr.heap.size _ (fun o h1 h2 => ⟨rfl, h1, h2⟩)) as ex w2 ⟨rfl, hm2⟩)
          have hmw : Mod (TB wr.heap.size) wr w2 := (((Mod.refl _ wr).alloc _ _).drew).trans hm2
          have kc : w2.cell? ⟨wr.heap.size, 11, none⟩ = some (.iface 86 (.map (some (W.heap.size + 1)))) := hm2.get (by go_size) (by unfold TB; omega) (by go_cell)
          clear hm2
          have hs2 := hmw.size
          have hs3 : wr.heap.size < w2.heap.size := by
            have := kc
            rcases Nat.lt_or_ge wr.heap.size w2.heap.size with h | h
            · exact h
            · simp [World.cell?, Array.getElem?_eq_none h] at this
          have km := ownsMap_moved hown (hmw.block _ hq0 (fun o t => by unfold TB at t; omega))
          have kr := hmw.get Hr (o := 0) (by unfold TB; omega) hcr
          have kf := (hmw.frozen ⟨r, 0, none⟩).trans hfr
          have kz0 := hmw.get Ho (o := 0) (by unfold TB; omega) ho0
          have kz1 := hmw.get Ho (o := 1) (by unfold TB; omega) ho1
          have kz2 := hmw.get Ho (o := 2) (by unfold TB; omega) ho2
          have k11 := hmw.get Ho (o := 11) (by unfold TB; omega) ho11
          have k12 := hmw.get Ho (o := 12) (by unfold TB; omega) ho12
          have Hr2 : r < w2.heap.size := by omega
          have Ho2 : o < w2.heap.size := by omega
          clear hcr hfr ho0 ho1 ho2 ho11 ho12
          go_wp2
          go_region_with (go_at_call 34; go_call (patch_bin _ o _ _) as ex w3 ⟨rfl, hm3, hroot⟩)
          all_goals
            have hm4 : Mod (PT r w2.heap.size) w2 w3 := (((Mod.refl _ w2).alloc _ _).drew).trans hm3
            have b11 : w3.cell? ⟨w2.heap.size, 11, none⟩ = some (.string ⟨#[105, 110]⟩) := hm3.get (by go_size) (by unfold PT; omega) (by go_cell)
            have b12 : w3.cell? ⟨w2.heap.size, 12, none⟩ = some (.iface 39 (.pointer (some ⟨l, 0, none⟩))) := hm3.get (by go_size) (by unfold PT; omega) (by go_cell)
            have b13 : w3.cell? ⟨w2.heap.size, 13, none⟩ = some (.iface 72 (.pointer (some ⟨wr.heap.size, 0, none⟩))) := hm3.get (by go_size) (by unfold PT; omega) (by go_cell)
            clear hm3
            have mc := hm4.get hs3 (o := 11) (by unfold PT; omega) kc
            have mm := ownsMap_moved km (hm4.block _ (by omega) (fun o t => by unfold PT at t; omega))
            have hfin : ModB (TR r) W w3 := ((Below.toB hnx).transM hmw.toB (fun k o hk t => by unfold TB at t; omega)).transM hm4.toB (fun k o hk t => by unfold PT at t; unfold TR; omega)
            have hset : Hid (SetAt w3 r l k2 (setS ss k2) 9 86) := ⟨w2.heap.size, wr.heap.size, (W.heap.size + 1), hroot, b11, b12, b13, mc, mm⟩
            clear hm4 hroot b11 b12 b13 mc mm hmw hnx km kc hown
            go_wp2
            simp only [Exit.jump, Exit.inBlock]
            go_returns
            exact ⟨rfl, hfin, hset.out⟩
end Go.Proofs.YthhijnemlhjpgaaGreat

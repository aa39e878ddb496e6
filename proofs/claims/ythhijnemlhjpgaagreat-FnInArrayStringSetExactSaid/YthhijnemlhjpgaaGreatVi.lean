/-
  What is proved here: inArray.Visit on an array of integer literals under an int: the root cell holds a new 'in' node over the set of the integers; nothing else that was there has turned.
-/
import Derived.Test.YthhijnemlhjpgaaGreatVn
namespace Go.Proofs.YthhijnemlhjpgaaGreat
open Go.ChangeShapes Go.WideShapes Go.ChangeAt Go.RowKit Go.Extern
open Go.Maps (setOf Keyed)
set_option linter.unusedVariables false

def keysI (zs : List Int) (k : Nat) : List Lit := (zs.take k).map (Lit.int .i64)
def setI (zs : List Int) (k : Nat) : DataW Unit := setOf (.agg []) (keysI zs k)
theorem setI_zero (zs : List Int) : setI zs 0 = .map [] := by simp [setI, keysI, setOf]
theorem setI_succ (zs : List Int) (k : Nat) (hk : k < zs.length) : setI zs (k + 1) = (setI zs k).put (.int .i64 (zs.getD k 0)) (.agg []) := by
  have e : keysI zs (k + 1) = keysI zs k ++ [Lit.int .i64 (zs.getD k 0)] := by
    unfold keysI
    rw [List.take_add_one, List.map_append]
    simp [List.getD, List.getElem?_eq_getElem hk]
  rw [setI, e, Go.Maps.setOf_snoc]; rfl

theorem lawI : Keyed Tryz.prog 3 := Go.Maps.int_keyed Tryz.underlying3

def TR (r : Nat) (k o : Nat) : Prop := k = r ∧ o = 0

def SetAt (w : World) (r l n : Nat) (D : DataW Unit) (K T : TypeId) : Prop := ∃ b m q : Nat, w.cell? ⟨r, 0, none⟩ = some (.iface 63 (.pointer (some ⟨b, 0, none⟩))) ∧ w.cell? ⟨b, 11, none⟩ = some (.string ⟨#[105, 110]⟩) ∧ w.cell? ⟨b, 12, none⟩ = some (.iface 39 (.pointer (some ⟨l, 0, none⟩))) ∧ w.cell? ⟨b, 13, none⟩ = some (.iface 72 (.pointer (some ⟨m, 0, none⟩))) ∧ w.cell? ⟨m, 11, none⟩ = some (.iface T (.map (some q))) ∧ w.ownsMap Tryz.prog K unitElem q n D

set_option maxRecDepth 100000 in
set_option maxHeartbeats 2000000 in
theorem visit_ints (W : World) (u r o l a e n p0 : Nat) (zs : List Int) (hr : r < W.heap.size) (ho : o < W.heap.size) (hl : l < W.heap.size) (ha : a < W.heap.size) (hee : e < W.heap.size) (hp : p0 + n ≤ W.heap.size) (hro : ¬ r = o) (hra : ¬ r = a) (hre : ¬ r = e) (hrl : ¬ r = l)
    (cr : W.cell? ⟨r, 0, none⟩ = some (.iface 63 (.pointer (some ⟨o, 0, none⟩)))) (fr : W.frozen? ⟨r, 0, none⟩ = false) (o0 : W.cell? ⟨o, 0, none⟩ = some (.int .i64 0)) (o1 : W.cell? ⟨o, 1, none⟩ = some (.int .i64 0)) (o2 : W.cell? ⟨o, 2, none⟩ = some .nilIface)
    (c11 : W.cell? ⟨o, 11, none⟩ = some (.string ⟨#[105, 110]⟩)) (c12 : W.cell? ⟨o, 12, none⟩ = some (.iface 39 (.pointer (some ⟨l, 0, none⟩)))) (c13 : W.cell? ⟨o, 13, none⟩ = some (.iface 60 (.pointer (some ⟨a, 0, none⟩))))
    (ca : W.cell? ⟨a, 11, none⟩ = some (.slice (some ⟨e, 0, none⟩) n n)) (c2 : W.cell? ⟨l, 2, none⟩ = some (.iface 112 (.pointer (some ⟨0, 3, none⟩))))
    (hn : 0 < n) (hn2 : n ≤ 4096) (hz : Hid (zs.length = n)) (hw : Hid (∀ j, j < n → (Lit.int .i64 (zs.getD j 0)).wf = true)) (hI : Hid (∀ j, j < n → W.cell? ⟨e, j, none⟩ = some (.iface 57 (.pointer (some ⟨p0 + j, 0, none⟩))))) (hV : Hid (∀ j, j < n → W.cell? ⟨p0 + j, 11, none⟩ = some (.int .i64 (zs.getD j 0)))) :
    Calls Tryz.prog 24 #[.pointer (some ⟨u, 0, none⟩), .pointer (some ⟨r, 0, none⟩)] W fun e w' => e = .returned (.tuple #[]) ∧ ModB (TR r) W w' ∧ SetAt w' r l n (setI zs n) 3 74 := by
  have q1 := ta_BB
  have q2 := ta_AA
  have q3 := ta_IS
  have q5 := ta_II
  have q6 := tp_I
  have t1 := invokeKind
  have t2 := kind_int
  have t3 := nilKind
  have t4 := rt_eq_nil
  have hmm := @run_makeMap Tryz.prog
  have t5 := typeOf_mi
  go_enter Tryz.func24, Tryz.ntmps24
  go_wp2
  refine wp_scope_forward 0 rfl ?_
  go_wp2_with (first | (go_at_call 20; go_call (type_some _ 112 (.pointer (some ⟨0, 3, none⟩)) _) as ex w1 ⟨rfl, rfl⟩))
  go_loop [67] (fun i => ∃ k : Nat, k ≤ n ∧ i = .int .i64 k) (fun i => n - (intOf i).toNat)
  case atStart => exact ⟨0, Nat.zero_le _, rfl⟩
  case round =>
    obtain ⟨k, hk, rfl⟩ := hrel
    by_cases hks : k < n
    · have hc := hI.out k hks
      go_wp2
      exact ⟨⟨k + 1, by omega, by go_num⟩, by simp [intOf]; omega⟩
    · obtain rfl : k = n := by omega
      clear hk
      go_wp2
      go_loopw [85] (fun i wr => ∃ k2 : Nat, k2 ≤ k ∧ i = .int .i64 k2 ∧ wr.ownsMap Tryz.prog 3 (unitElem (H := Unit)) W.heap.size k2 (setI zs k2) ∧ Below W.heap.size W wr)
        (fun i _ => k - (intOf i).toNat)
      case atStart => exact ⟨0, Nat.zero_le _, rfl, by rw [setI_zero]; exact World.ownsMap_made _ _ _ _, (Below.refl _ _).alloc (Nat.le_refl _) _⟩
      case round =>
        obtain ⟨k2, hk2, rfl, hown, hnx⟩ := hrel
        by_cases hlt : k2 < k
        · have hc := (hnx.cell (p := ⟨e, k2, none⟩) hee).trans (hI.out k2 hlt)
          have hv := (hnx.cell (p := ⟨p0 + k2, 11, none⟩) (by show p0 + k2 < _; omega)).trans (hV.out k2 hlt)
          have hkey := Lib.hid (Go.Maps.keyOf_int_mk Tryz.underlying3 (hw.out k2 hlt))
          go_wp2_with (at_mapUpdate; refine wpList_mapUpdate_own _ rfl _ _ _ 74 rfl 3 79 lawI Tryz.underlying74 (unitElem (H := Unit)) W.heap.size k2 _ rfl hown (by unfold maxLen; omega) _ _ _ rfl rfl hkey.out _ [] unitElem_mk ?_; intro w1 hown1 hgrow1)
          go_roundw
          case rel => exact ⟨k2 + 1, by omega, by go_num, (setI_succ zs k2 (by have := hz.out; omega)).symm ▸ hown1, hnx.grown hgrow1 hnx.size (fun j hj => by cases hj; exact Nat.le_refl _)⟩
          case measure => simp [intOf]; omega
        · obtain rfl : k2 = k := by omega
          clear hk2
          have hs0 := hnx.size
          have hc0 := (hnx.cell (p := ⟨e, 0, none⟩) hee).trans (hI.out 0 hn)
          have hcr := (hnx.cell (p := ⟨r, 0, none⟩) hr).trans cr
          have hfr := (hnx.frozen (p := ⟨r, 0, none⟩) hr).trans fr
          have ho0 := (hnx.cell (p := ⟨o, 0, none⟩) ho).trans o0
          have ho1 := (hnx.cell (p := ⟨o, 1, none⟩) ho).trans o1
          have ho2 := (hnx.cell (p := ⟨o, 2, none⟩) ho).trans o2
          have ho11 := (hnx.cell (p := ⟨o, 11, none⟩) ho).trans c11
          have ho12 := (hnx.cell (p := ⟨o, 12, none⟩) ho).trans c12
          have hca := (hnx.cell (p := ⟨a, 11, none⟩) ha).trans ca
          have Hr : r < wr.heap.size := by omega
          have Ho : o < wr.heap.size := by omega
          have Ha : a < wr.heap.size := by omega
          have He : e < wr.heap.size := by omega
          clear cr fr o0 o1 o2 c11 c12 c13 ca c2
          go_wp2
          go_region_with (go_at_call 32; go_call (setType_mi_m (TB wr.heap.size) wr.heap.size _ (fun o h1 h2 => ⟨rfl, h1, h2⟩)) as ex w2 ⟨rfl, hm2⟩)
          have hq : W.heap.size < wr.heap.size := by
            obtain ⟨es, c, hb, _⟩ := hown
            exact (Array.getElem?_eq_some_iff.1 hb).1
          have hmw : Mod (TB wr.heap.size) wr w2 := (((Mod.refl _ wr).alloc _ _).drew).trans hm2
          have kc : w2.cell? ⟨wr.heap.size, 11, none⟩ = some (.iface 74 (.map (some W.heap.size))) := hm2.get (by go_size) (by unfold TB; omega) (by go_cell)
          clear hm2
          have hs2 := hmw.size
          have hs3 : wr.heap.size < w2.heap.size := by
            have := kc
            rcases Nat.lt_or_ge wr.heap.size w2.heap.size with h | h
            · exact h
            · simp [World.cell?, Array.getElem?_eq_none h] at this
          have km := ownsMap_moved hown (hmw.block _ hq (fun o t => by unfold TB at t; omega))
          have kr := hmw.get Hr (o := 0) (by unfold TB; omega) hcr
          have kf := (hmw.frozen ⟨r, 0, none⟩).trans hfr
          have kz0 := hmw.get Ho (o := 0) (by unfold TB; omega) ho0
          have kz1 := hmw.get Ho (o := 1) (by unfold TB; omega) ho1
          have kz2 := hmw.get Ho (o := 2) (by unfold TB; omega) ho2
          have k11 := hmw.get Ho (o := 11) (by unfold TB; omega) ho11
          have k12 := hmw.get Ho (o := 12) (by unfold TB; omega) ho12
          have ka := hmw.get Ha (o := 11) (by unfold TB; omega) hca
          have ke := hmw.get He (o := 0) (by unfold TB; omega) hc0
          have Hr2 : r < w2.heap.size := by omega
          have Ho2 : o < w2.heap.size := by omega
          have Ha2 : a < w2.heap.size := by omega
          have He2 : e < w2.heap.size := by omega
          clear hcr hfr ho0 ho1 ho2 ho11 ho12 hca hc0
          go_wp2
          go_region_with (go_at_call 34; go_call (patch_bin _ o _ _) as ex w3 ⟨rfl, hm3, hroot⟩)
          all_goals
            have hm4 : Mod (PT r w2.heap.size) w2 w3 := (((Mod.refl _ w2).alloc _ _).drew).trans hm3
            have b11 : w3.cell? ⟨w2.heap.size, 11, none⟩ = some (.string ⟨#[105, 110]⟩) := hm3.get (by go_size) (by unfold PT; omega) (by go_cell)
            have b12 : w3.cell? ⟨w2.heap.size, 12, none⟩ = some (.iface 39 (.pointer (some ⟨l, 0, none⟩))) := hm3.get (by go_size) (by unfold PT; omega) (by go_cell)
            have b13 : w3.cell? ⟨w2.heap.size, 13, none⟩ = some (.iface 72 (.pointer (some ⟨wr.heap.size, 0, none⟩))) := hm3.get (by go_size) (by unfold PT; omega) (by go_cell)
            clear hm3
            have mc := hm4.get hs3 (o := 11) (by unfold PT; omega) kc
            have mm := ownsMap_moved km (hm4.block _ (by omega) (fun o t => by unfold PT at t; omega))
            have ma := hm4.get Ha2 (o := 11) (by unfold PT; omega) ka
            have me := hm4.get He2 (o := 0) (by unfold PT; omega) ke
            have hfin : ModB (TR r) W w3 := ((Below.toB hnx).transM hmw.toB (fun k o hk t => by unfold TB at t; omega)).transM hm4.toB (fun k o hk t => by unfold PT at t; unfold TR; omega)
            have hset : Hid (SetAt w3 r l k2 (setI zs k2) 3 74) := ⟨w2.heap.size, wr.heap.size, W.heap.size, hroot, b11, b12, b13, mc, mm⟩
            clear hm4 hroot b11 b12 b13 mc mm hmw hnx km kc hown
            go_wp2
            go_step3
            go_wp2
            refine wp_loop_rounds 1 ?_
            rw [rounds_succ]
            go_wp2
            simp only [Exit.jump, Exit.inBlock]
            go_returns
            exact ⟨rfl, hfin, hset.out⟩
end Go.Proofs.YthhijnemlhjpgaaGreat

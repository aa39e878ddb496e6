/-
  What is proved here: String of a Map with no key gives 'Map{}', and of a Map with one key k whose value is any gives 'Map{', k, ': any}'. fmt's texts are told by the model's own text law (tested against real Go, not proved from fmt's source).
-/
import Derived.Test.YtgolkhpojmjjfaaGreatFmtSp
import Derived.Laws.IdiomRangeMap
import Derived.Laws.MakeOwn
import Derived.OwnWalk
import Derived.ArgAppend
import Derived.WideMake
import Derived.Maps.OwnSet
import Derived.Maps.RangeWalk
namespace Go.Proofs.YtgolkhpojmjjfaaGreatFmt
open Go.ChangeShapes Go.WideShapes Go.ChangeAt Go.RowKit Go.Extern
open Go.Extern.Stop Go.Stop Go.Kit
open Go.Maps (Keyed)
set_option linter.unusedVariables false
set_option linter.unusedSimpArgs false

theorem run_len_empty (r c : Nat) (ty : TypeId) (w : World) (h : w.heap[r]? = some (.map #[] c)) :
    (Builtin.len_ #[50] ty #[.map (some r)]).run Tryz.prog w = .ok (.int .i64 0) w := by
  simp [Builtin.len_, run_underlying Tryz.underlying50, MapKept.run_getObj_map h, goInt]

theorem next_empty (w : World) (ty : TypeId) (r c : Nat) (h : w.heap[r]? = some (.map #[] c)) :
    (Instr.next (.pointer (some ⟨w.heap.size, 0, none⟩)) false ty).run Tryz.prog (w.alloc (.mapIter (some r) c #[] c)) = .ok (.tuple #[.bool false]) (w.alloc (.mapIter (some r) c #[] c)) := by
  rcases run_next_map (P := Tryz.prog) w ty r c c #[] #[] c h (by simp) (Nat.le_refl _) with ⟨_, h2⟩ | ⟨e, he, _⟩
  · exact h2
  · simp [leftOf] at he

theorem made01 (n : Nat) (hn : n ≤ 65536) (w : World) : (Instr.makeSlice 96 (.int .i64 0) (.int .i64 n)).run Tryz.prog w = .ok (.slice (some ⟨w.heap.size, 0, none⟩) 0 n) (w.alloc (.cells (madeCells #[.string ByteArray.empty] n) 9)) := by
  have hinfo : (Tryz.prog.info? 9).map (fun i => (i.zero, i.size, i.bytes)) = some (some (.string ByteArray.empty), 1, 16) := by kernel_rfl
  obtain ⟨i0, hi, hz0, hz1, hz2⟩ := info_parts hinfo
  have := run_make w 96 9 i0 (.string ByteArray.empty) Tryz.underlying96 hi hz0 .i64 .i64 0 n (by omega) (by omega) (by rw [hz2]; omega) (by omega)
  rw [this, hz1]
  simp [Value.cells]

set_option maxRecDepth 100000 in
theorem join0 (a : Option Addr) (c : Nat) (sep : ByteArray) (w : World) : Calls Tryz.prog 60 #[.slice a 0 c, .string sep] w fun e w' => e = .returned (.string (mkS [])) ∧ w = w' := by
  go_enter Tryz.func60, Tryz.ntmps60
  go_wp2
  go_ret
  exact ⟨rfl, rfl⟩

set_option maxRecDepth 100000 in
theorem join1 (b c : Nat) (s sep : ByteArray) (w : World) (hc : w.cell? ⟨b, 0, none⟩ = some (.string s)) : Calls Tryz.prog 60 #[.slice (some ⟨b, 0, none⟩) 1 c, .string sep] w fun e w' => e = .returned (.string s) ∧ w = w' := by
  go_enter Tryz.func60, Tryz.ntmps60
  go_wp2
  go_ret
  exact ⟨rfl, rfl⟩

set_option maxRecDepth 100000 in
set_option maxHeartbeats 1000000 in
theorem t_map0 (F : Interp) (r c : Nat) (w : World) (hF : F.told.answers w.tape) (hm : w.heap[r]? = some (.map #[] c)) :
    Calls Tryz.prog 58 #[.map (some r)] w fun e w' => e = .returned (.string (mkS [77, 97, 112, 123, 125])) ∧ Below w.heap.size w w' := by
  have hlt : r < w.heap.size := by
    rcases Nat.lt_or_ge r w.heap.size with h | h
    · exact h
    · simp [Array.getElem?_eq_none h] at hm
  have hm1 : (w.alloc (.cells (madeCells #[.string ByteArray.empty] 0) 9)).heap[r]? = some (.map #[] c) := ((MapKept.heap_alloc w _).2 r hlt).trans hm
  have h5 := fun ty => run_len_empty r c ty w hm
  have h6 : ∀ w : World, (Instr.makeSlice 96 (.int .i64 0) (.int .i64 0)).run Tryz.prog w = .ok (.slice (some ⟨w.heap.size, 0, none⟩) 0 0) (w.alloc (.cells (madeCells #[.string ByteArray.empty] 0) 9)) := fun w => made01 0 (by decide) w
  have h7 := run_range_map (P := Tryz.prog) (w.alloc (.cells (madeCells #[.string ByteArray.empty] 0) 9)) 50 9 37 r #[] c Tryz.underlying50 hm1
  have h8 := fun ty => next_empty (w.alloc (.cells (madeCells #[.string ByteArray.empty] 0) 9)) ty r c hm1
  have e1 : (w.alloc (.cells (madeCells #[.string ByteArray.empty] 0) 9)).heap.size = w.heap.size + 1 := by simp
  rw [e1] at h7 h8
  have q1 := sp_call
  have q2 := sp_guard
  have q3 := sp_op
  have q4 := pr_M
  have hF1 := answers_open hF
  clear hm hm1 hlt hF e1
  go_enter Tryz.func58, Tryz.ntmps58
  go_wp2
  refine wp_loop_rounds 1 ?_
  rw [rounds_succ]
  go_wp2_with (go_at_call 60; (with_reducible refine (join0 _ _ _ _).mono ?_); rintro e w1 ⟨rfl, rfl⟩)
  go_ret
  exact ⟨by rw [mkS_list, told_M F [] (by simp)]; rfl, by go_grown⟩

/-! ### a Map of one key -/
open Classical in
noncomputable def anyElem (v : Value) : Option (DataW Unit × List MemPlace) := if v = .iface 47 (.agg #[]) then some (.nil, []) else none
theorem anyElem_mk : anyElem (.iface 47 (.agg #[])) = some (.nil, []) := by unfold anyElem; rw [if_pos rfl]
theorem anyElem_inv {v : Value} {z : DataW Unit × List MemPlace} (h : anyElem v = some z) : v = .iface 47 (.agg #[]) ∧ z = (.nil, []) := by
  unfold anyElem at h
  split at h
  · rename_i e; cases h; exact ⟨e, rfl⟩
  · cases h
theorem keyedS : Keyed Tryz.prog 9 := Go.Maps.string_keyed Tryz.underlying9
def one (k : ByteArray) : DataW Unit := (DataW.map []).put (.string k.data.toList) .nil
abbrev OwnOne (w : World) (b : Nat) (k : ByteArray) : Prop := w.ownsMap Tryz.prog 9 anyElem b 1 (one k)

theorem keyOf_str_inv {key : Value} {kl : Lit} (h : keyOf Tryz.prog 9 key = some kl) : ∃ s : ByteArray, key = .string s ∧ kl = .string s.data.toList := by
  have hk : Tryz.prog.underlying 9 = some .string := Tryz.underlying9
  cases key <;> simp [keyOf, hk, mapKey] at h
  rename_i s
  exact ⟨s, rfl, h.2.symm⟩

theorem one_key {k s : ByteArray} (h : ∀ zd, (one k).atKey (.string s.data.toList) zd = .nil) : s = k := by
  by_cases e : (Lit.string s.data.toList) = Lit.string k.data.toList
  · have : s.data.toList = k.data.toList := by simpa using e
    exact (mkS_eq this).trans (mkS_eq rfl).symm
  · have h1 := h (.lit (.bool true))
    unfold one at h1
    rw [Go.Maps.atKey_put_other e] at h1
    cases h1

/-- THE STEP OF THE RANGE over such a map. -/
theorem wpList_next_one {P : Program} (w : World) {ops : Array Oper} {rest : List Oper} {o : Oper} {a : Act} {Q : Exit → Act → World → Prop} (hP : P = Tryz.prog) (hg : o.guard = none) (it : Operand) (hop : o.op = Op.next it false)
    (b r n : Nat) (k : ByteArray) (left : Lit → Bool) (cnt : Nat) (hit : a.eval it = .pointer (some ⟨r, 0, none⟩)) (h : w.ranges P 9 anyElem b r n (one k) left cnt)
    (hDone : cnt = 0 → (∀ kl, left kl = false) → wpList P ops Q rest (a.put o.dst (.tuple #[.bool false])) w)
    (hMore : ∀ (w' : World) (cnt' : Nat), w'.ranges P 9 anyElem b r n (one k) (fun z => left z && !z.sameKey (.string k.data.toList)) cnt' → cnt' < cnt →
      w.grownBy w' (some r) → w'.heap.size = w.heap.size → (Instr.entry (.pointer (some ⟨r, 0, none⟩))).run P w' = .ok (.tuple #[.string k, .iface 47 (.agg #[])]) w' → wpList P ops Q rest (a.put o.dst (.tuple #[.bool true, .string k, .iface 47 (.agg #[])])) w') :
    wpList P ops Q (o :: rest) a w := by
  subst hP
  refine wpList_next_ranges w hg it hop 9 keyedS anyElem Value.string (fun (_ : Unit) => .iface 47 (.agg #[])) (fun key kl hkey => by obtain ⟨s, rfl, _⟩ := keyOf_str_inv hkey; exact ⟨s, rfl⟩) (fun v y hv => by obtain ⟨rfl, _⟩ := anyElem_inv hv; exact ⟨(), rfl⟩)
    b r n (one k) left cnt hit h hDone (fun s c kl y w' cnt' hkey hlk hv hat hrg hlt hgr hsz hen => ?_)
  obtain ⟨s', es, rfl⟩ := keyOf_str_inv hkey
  cases es
  obtain ⟨_, ey⟩ := anyElem_inv hv
  subst ey
  obtain rfl := one_key hat
  exact hMore w' cnt' hrg hlt hgr hsz hen

theorem gs_cell (w : World) (a : Addr) (u : Value) : w.grownBy (w.setCell a u) (some a.block) :=
  ⟨rfl, rfl, rfl, by simp [World.setCell], fun k _ hk => Below.heap_setCell w a u k (fun e => hk (by rw [e]))⟩
theorem gb_drew {w w' : World} {row : Option Nat} (h : w.grownBy w' row) : w.grownBy w'.drew row := ⟨h.os, h.tape, h.output, h.size, h.block⟩
theorem gb_of2 {w w' : World} (h : Below w.heap.size w w') : w.grownBy w' none := ⟨h.os, h.tape, h.output, h.size, fun i hi _ => h.block i hi⟩

def kvT (k : ByteArray) : List UInt8 := k.data.toList ++ [58, 32] ++ [97, 110, 121]
def mapT (k : ByteArray) : List UInt8 := [77, 97, 112, 123] ++ kvT k ++ [125]
theorem kv_len (k : ByteArray) : (kvT k).length = k.size + 5 := by simp [kvT]

theorem size_one (k : ByteArray) : Maps.size (one k) = 1 := rfl

set_option maxRecDepth 100000 in
set_option maxHeartbeats 2000000 in
theorem t_map1 (F : Interp) (r : Nat) (k : ByteArray) (w : World) (hF : F.told.answers w.tape) (hk : k.size ≤ 100000) (hown : OwnOne w r k) :
    Calls Tryz.prog 58 #[.map (some r)] w fun e w' => e = .returned (.string (mkS (mapT k))) ∧ Below w.heap.size w w' := by
  have h5 := fun ty => hown.len (t := 50) Tryz.underlying50 ty
  rw [size_one] at h5
  have h6 : ∀ w : World, (Instr.makeSlice 96 (.int .i64 0) (.int .i64 1)).run Tryz.prog w = .ok (.slice (some ⟨w.heap.size, 0, none⟩) 0 1) (w.alloc (.cells (madeCells #[.string ByteArray.empty] 1) 9)) := fun w => made01 1 (by decide) w
  have hinfo : (Tryz.prog.info? 9).map (fun i => (i.zero, i.size, i.bytes)) = some (some (.string ByteArray.empty), 1, 16) := by kernel_rfl
  obtain ⟨i0, hi, hz0, hz1, hz2⟩ := info_parts hinfo
  have hkl : k.data.toList.length ≤ 100000 := by simpa using hk
  have ht : FmtStop.textOf (F.told "fmt.Sprintf" [[37, 115, 58, 32, 37, 115], shapeS, FmtStop.pack k.data.toList, shapeS, FmtStop.pack [97, 110, 121]] 0) = mkS (kvT k) := told_K F k.data.toList [97, 110, 121] (by omega) (by simp)
  have hu : FmtStop.textOf (F.told "fmt.Sprintf" [[77, 97, 112, 123, 37, 115, 125], shapeS, FmtStop.pack (kvT k)] 0) = mkS (mapT k) := told_M F (kvT k) (by rw [kv_len]; omega)
  have HI := Lib.hid (And.intro hi (And.intro hz0 (And.intro hz1 hz2)))
  have HF := Lib.hid hF
  have hrl : r < w.heap.size := hown.lt
  have HW := Lib.hid (hown.alloc (.cells (madeCells #[.string ByteArray.empty] 1) 9))
  have HT := Lib.hid ht
  have HU := Lib.hid hu
  have q1 := sp_call
  have q2 := sp_guard
  have q3 := sp_op
  have q4 := pr_M
  have q5 := pr_K
  have q6 := mkS_list
  clear hinfo hi hz0 hz1 hz2 hF hown ht hu
  go_enter Tryz.func58, Tryz.ntmps58
  go_wp2_with (first | (at_range; refine wpList_range_own _ rfl _ 50 rfl 9 37 keyedS Tryz.underlying50 anyElem r 1 (one k) rfl HW.out ?_; intro w0 hrg0 hg0 hs0) | go_in)
  go_frame
  have e1 : (w.alloc (.cells (madeCells #[.string ByteArray.empty] 1) 9)).heap.size = w.heap.size + 1 := by simp
  rw [e1] at hrg0 hs0 ⊢
  have HC0 : (w.alloc (.cells (madeCells #[.string ByteArray.empty] 1) 9)).cell? ⟨w.heap.size, 0, none⟩ = some (.string ByteArray.empty) := by
    rw [World.cell?_alloc_new]
    simp [madeCells]
  have HF0 : (w.alloc (.cells (madeCells #[.string ByteArray.empty] 1) 9)).frozen? ⟨w.heap.size, 0, none⟩ = false := by
    rw [frozen?_alloc_cells]
    simp [World.frozen?]
  have hc0 : w0.cell? ⟨w.heap.size, 0, none⟩ = some (.string ByteArray.empty) := (World.cell?_of_block (hg0.block w.heap.size (by rw [e1]; omega) (by simp))).trans HC0
  have hf0 : w0.frozen? ⟨w.heap.size, 0, none⟩ = false := (World.frozen?_of_block (hg0.block w.heap.size (by rw [e1]; omega) (by simp))).trans HF0
  have hb0 : Below w.heap.size w w0 := ((Below.refl _ _).alloc (Nat.le_refl _) _).grown hg0 (by rw [e1]; omega) (fun j hj => by cases hj)
  clear e1 HC0 HF0
  go_loopw [3] (fun p wr => ∃ (left : Lit → Bool) (cnt : Nat), wr.ranges Tryz.prog 9 anyElem r (w.heap.size + 1) 1 (one k) left cnt ∧ Below w.heap.size w wr ∧ wr.frozen? ⟨w.heap.size, 0, none⟩ = false ∧ w.heap.size < wr.heap.size ∧
      ((cnt = 1 ∧ p = .slice (some ⟨w.heap.size, 0, none⟩) 0 1 ∧ wr.cell? ⟨w.heap.size, 0, none⟩ = some (.string ByteArray.empty)) ∨
       (cnt = 0 ∧ p = .slice (some ⟨w.heap.size, 0, none⟩) 1 1 ∧ wr.cell? ⟨w.heap.size, 0, none⟩ = some (.string (mkS (kvT k)))))) (fun _ wr => wr.rangeLeft r (w.heap.size + 1))
  case atStart => exact ⟨_, _, hrg0, hb0, hf0, by omega, .inl ⟨size_one k, rfl, hc0⟩⟩
  case round =>
    obtain ⟨left, cnt, hrg, hbel, hfz, hsz, hst⟩ := hrel
    have HB := Lib.hid hbel
    clear hbel
    rcases hst with ⟨hcnt, rfl, hcell⟩ | ⟨hcnt, rfl, hcell⟩
    · have HN := Lib.hid hcnt
      clear hcnt
      have ht := HT.out
      go_wp2_with (first | (at_next; refine wpList_next_one _ rfl rfl _ rfl r (w.heap.size + 1) 1 k left cnt rfl hrg ?_ ?_) | go_in)
      · intro h0 _
        exact absurd h0 (by rw [HN.out]; decide)
      · intro w1 cnt1 hrg1 hlt hg1 hs1 hen
        have hb1 := HB.out.grown hg1 HB.out.size (fun j hj => by cases hj; exact Nat.le_succ _)
        have hc1 : w1.cell? ⟨w.heap.size, 0, none⟩ = some (.string ByteArray.empty) := (World.cell?_of_block (hg1.block w.heap.size hsz (by simp))).trans hcell
        have hf1 : w1.frozen? ⟨w.heap.size, 0, none⟩ = false := (World.frozen?_of_block (hg1.block w.heap.size hsz (by simp))).trans hfz
        have HRG := Lib.hid hrg1
        have HRO := Lib.hid hrg
        have HB1 := Lib.hid hb1
        have HL := Lib.hid hlt
        have hs2 : w.heap.size < w1.heap.size := by omega
        clear hrg1 hrg hb1 hlt hg1 hs1 hcell hfz
        go_wp2_with (go_at_call 52; (refine (t_any _).mono ?_); rintro e w2 ⟨rfl, hg⟩; have hF2 := answers_open (show F.told.answers w2.tape by rw [hg.tape, HB1.out.tape]; exact HF.out); have hc2 := (hg.cell (p := ⟨w.heap.size, 0, none⟩) hs2).trans hc1; have hf2 := (hg.frozen (p := ⟨w.heap.size, 0, none⟩) hs2).trans hf1; have hs3 : w.heap.size < w2.heap.size := Nat.lt_of_lt_of_le hs2 hg.size)
        have hgs : w2.grownBy (((w2.setCell ⟨w.heap.size, 0, none⟩ (.string (mkS (kvT k)))).alloc (.cells #[.iface 9 (.string k), .iface 9 (.string (mkS [97, 110, 121]))] 20)).alloc (.cells #[.string (mkS (kvT k))] 9)).drew (some w.heap.size) :=
          gb_drew (((gs_cell w2 ⟨w.heap.size, 0, none⟩ _).trans (World.grownBy_alloc _ _ _)).trans (World.grownBy_alloc _ _ _))
        have hrg2 := (HRG.out.kept (gb_of2 hg) (by simp) (by simp)).kept hgs (fun e => by have := Option.some.inj e; omega) (fun e => by have := Option.some.inj e; omega)
        have hz : cnt1 = 0 := by have := HL.out; have := HN.out; omega
        refine ⟨⟨_, cnt1, hrg2, (HB1.out.trans (hg.mono HB1.out.size)).grown hgs (HB1.out.trans (hg.mono HB1.out.size)).size (fun j hj => by cases hj; exact Nat.le_refl _), ?_, Nat.lt_of_lt_of_le hs3 hgs.size, .inr ⟨hz, rfl, ?_⟩⟩, ?_⟩
        · simp only [World.frozen?_drew, frozen?_alloc_cells, World.frozen?_setCell]
          exact hf2
        · have hsz2 : w.heap.size < (w2.setCell ⟨w.heap.size, 0, none⟩ (.string (mkS (kvT k)))).heap.size := by simpa [World.setCell] using hs3
          exact (World.cell?_alloc_lt _ _ _ (by simp; omega)).trans ((World.cell?_alloc_lt _ _ _ hsz2).trans (World.cell?_setCell_same _ _ _ hc2))
        · rw [hrg2.left_eq, HRO.out.left_eq]
          exact HL.out
    · have HN := Lib.hid hcnt
      clear hcnt
      go_wp2_with (first | (at_next; refine wpList_next_one _ rfl rfl _ rfl r (w.heap.size + 1) 1 k left cnt rfl hrg ?_ ?_) | go_in)
      · intro h0 _
        have hu := HU.out
        have hF1 := answers_open (show F.told.answers wr.tape by rw [HB.out.tape]; exact HF.out)
        clear h0
        go_wp2_with (go_at_call 60; (with_reducible refine (join1 _ _ _ _ _ hcell).mono ?_); rintro e w1 ⟨rfl, rfl⟩)
        go_ret
        exact ⟨rfl, HB.out.trans (by go_grown)⟩
      · intro w1 cnt1 hrg1 hlt
        exact absurd hlt (by rw [HN.out]; omega)
end Go.Proofs.YtgolkhpojmjjfaaGreatFmt

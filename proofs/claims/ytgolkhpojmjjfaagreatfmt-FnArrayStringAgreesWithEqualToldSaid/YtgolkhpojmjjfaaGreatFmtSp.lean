/-
  What is proved here: String of any, nil and array, by contracts: an array's text is 'Array{', its element's text, '}'. fmt's texts are told by the model's own text law (tested against real Go, not proved from fmt's source).
-/
import Derived.Test.YtgolkhpojmjjfaaGreatFmtBa
import Derived.Stop.FmtTextKit
import Derived.Stop.FmtTextVerbs
import Derived.Stop.Texts
import Derived.Stop.Told
import Derived.WalkSpells
namespace Go.Proofs.YtgolkhpojmjjfaaGreatFmt
open Go.ChangeShapes Go.WideShapes Go.ChangeAt Go.RowKit Go.Extern
open Go.Extern.Stop Go.Stop Go.Kit
set_option linter.unusedVariables false

def mkS (l : List UInt8) : ByteArray := ⟨l.toArray⟩
theorem mkS_list (l : List UInt8) : (mkS l).data.toList = l := by simp [mkS]
theorem mkS_eq {s : ByteArray} {l : List UInt8} (h : s.data.toList = l) : s = mkS l := by
  cases s with
  | mk d => simp at h; subst h; simp [mkS]

def shapeS : List UInt8 := [12, 6, 0, 0, 0, 0, 0, 0, 0, 115, 116, 114, 105, 110, 103]
theorem sp_call (args : Array Value) (w : World) : (callFunc 59 args).run Tryz.prog w = ((FmtStop.sprintf #[9, 131] #[9] args).run Tryz.prog w).andThen fun v w' => .ok (.value v) w' :=
  run_callFunc_extern Tryz.func59 (by kernel_rfl) (by kernel_rfl) (by kernel_rfl) (by kernel_rfl) args w
theorem sp_guard (name : String) (w : World) : (FmtStop.guard name).run Tryz.prog w = .ok () w := by kernel_rfl
theorem sp_op (name : String) (x : ByteArray) (w : World) : (FmtStop.operand name false 115 false (.iface 9 (.string x))).run Tryz.prog w = .ok (shapeS, FmtStop.pack x.data.toList) w := by kernel_rfl
theorem pr_A : FmtStop.printed? ⟨#[65, 114, 114, 97, 121, 123, 37, 115, 125]⟩ 1 = some [(0, 115, false)] := by kernel_rfl
theorem pr_M : FmtStop.printed? ⟨#[77, 97, 112, 123, 37, 115, 125]⟩ 1 = some [(0, 115, false)] := by kernel_rfl
theorem pr_K : FmtStop.printed? ⟨#[37, 115, 58, 32, 37, 115]⟩ 2 = some [(0, 115, false), (1, 115, false)] := by kernel_rfl

theorem tx_A (s : List UInt8) (hs : s.length < 2 ^ 64) : FmtText.text "fmt.Sprintf" [[65, 114, 114, 97, 121, 123, 37, 115, 125], shapeS, FmtStop.pack s] = some ([65, 114, 114, 97, 121, 123] ++ s ++ [125]) := by
  have hp : (FmtText.parse [65, 114, 114, 97, 121, 123, 37, 115, 125]).map FmtText.glue = some [.lit [65, 114, 114, 97, 121, 123], .verb {} 115, .lit [125]] := by rfl
  rw [FmtText.text_sprintf_glued hp (FmtText.operands_cons (FmtText.operand_str_at (sh := shapeS) rfl rfl s hs) FmtText.operands_nil)]
  simp [FmtText.render, FmtText.printArg_s_str]
theorem tx_M (s : List UInt8) (hs : s.length < 2 ^ 64) : FmtText.text "fmt.Sprintf" [[77, 97, 112, 123, 37, 115, 125], shapeS, FmtStop.pack s] = some ([77, 97, 112, 123] ++ s ++ [125]) := by
  have hp : (FmtText.parse [77, 97, 112, 123, 37, 115, 125]).map FmtText.glue = some [.lit [77, 97, 112, 123], .verb {} 115, .lit [125]] := by rfl
  rw [FmtText.text_sprintf_glued hp (FmtText.operands_cons (FmtText.operand_str_at (sh := shapeS) rfl rfl s hs) FmtText.operands_nil)]
  simp [FmtText.render, FmtText.printArg_s_str]
theorem tx_K (s t : List UInt8) (hs : s.length < 2 ^ 64) (ht : t.length < 2 ^ 64) : FmtText.text "fmt.Sprintf" [[37, 115, 58, 32, 37, 115], shapeS, FmtStop.pack s, shapeS, FmtStop.pack t] = some (s ++ [58, 32] ++ t) := by
  have hp : (FmtText.parse [37, 115, 58, 32, 37, 115]).map FmtText.glue = some [.verb {} 115, .lit [58, 32], .verb {} 115] := by rfl
  rw [FmtText.text_sprintf_glued hp (FmtText.operands_cons (FmtText.operand_str_at (sh := shapeS) rfl rfl s hs) (FmtText.operands_cons (FmtText.operand_str_at (sh := shapeS) rfl rfl t ht) FmtText.operands_nil))]
  simp [FmtText.render, FmtText.printArg_s_str]

theorem told_A (F : Interp) (s : List UInt8) (hs : s.length < 1000000000) : FmtStop.textOf (F.told "fmt.Sprintf" [[65, 114, 114, 97, 121, 123, 37, 115, 125], shapeS, FmtStop.pack s] 0) = mkS ([65, 114, 114, 97, 121, 123] ++ s ++ [125]) :=
  mkS_eq (by rw [textOf_list, told_string F (tx_A s (by omega)) (by simp; omega)])
theorem told_M (F : Interp) (s : List UInt8) (hs : s.length < 1000000000) : FmtStop.textOf (F.told "fmt.Sprintf" [[77, 97, 112, 123, 37, 115, 125], shapeS, FmtStop.pack s] 0) = mkS ([77, 97, 112, 123] ++ s ++ [125]) :=
  mkS_eq (by rw [textOf_list, told_string F (tx_M s (by omega)) (by simp; omega)])
theorem told_K (F : Interp) (s t : List UInt8) (hs : s.length < 1000000000) (ht : t.length < 1000000000) : FmtStop.textOf (F.told "fmt.Sprintf" [[37, 115, 58, 32, 37, 115], shapeS, FmtStop.pack s, shapeS, FmtStop.pack t] 0) = mkS (s ++ [58, 32] ++ t) :=
  mkS_eq (by rw [textOf_list, told_string F (tx_K s t (by omega) (by omega)) (by simp; omega)])

theorem bel_tr3 {a b c : World} (h : Below a.heap.size a b) (g : Below b.heap.size b c) : Below a.heap.size a c := h.trans (g.mono h.size)
def arrT (l : List UInt8) : List UInt8 := [65, 114, 114, 97, 121, 123] ++ l ++ [125]

theorem t_any (w : World) : Calls Tryz.prog 52 #[.agg #[]] w fun e w' => e = .returned (.string (mkS [97, 110, 121])) ∧ Below w.heap.size w w' := by
  go_enter Tryz.func52, Tryz.ntmps52
  go_wp2
  go_ret
  exact ⟨rfl, by go_grown⟩

theorem t_nil (w : World) : Calls Tryz.prog 55 #[.agg #[]] w fun e w' => e = .returned (.string (mkS [110, 105, 108])) ∧ Below w.heap.size w w' := by
  go_enter Tryz.func55, Tryz.ntmps55
  go_wp2
  go_ret
  exact ⟨rfl, by go_grown⟩

set_option maxRecDepth 100000 in
set_option maxHeartbeats 1000000 in
theorem t_arr_any (F : Interp) (v : Value) (l : List UInt8) (w : World) (hF : F.told.answers w.tape) (hl : l.length < 1000000000)
    (h : ∀ w1, Below w.heap.size w w1 → Calls Tryz.prog 52 #[v] w1 fun e w' => e = .returned (.string (mkS l)) ∧ Below w1.heap.size w1 w') :
    Calls Tryz.prog 70 #[.agg #[.iface 47 v]] w fun e w' => e = .returned (.string (mkS (arrT l))) ∧ Below w.heap.size w w' := by
  have H := Lib.hid h
  have HF := Lib.hid hF
  clear h hF
  have q1 := sp_call
  have q2 := sp_guard
  have q3 := sp_op
  have q4 := pr_A
  go_enter Tryz.func70, Tryz.ntmps70
  go_wp2_with (go_at_call 52; (refine (H.out _ (by go_grown)).mono ?_); rintro e w1 ⟨rfl, hg⟩; have hF1 := answers_open (show F.told.answers w1.tape by rw [hg.tape]; exact HF.out))
  go_ret
  exact ⟨by rw [mkS_list, told_A F l hl]; rfl, (bel_tr3 (by go_grown) hg).alloc (bel_tr3 (by go_grown) hg).size _ |>.drew⟩

set_option maxRecDepth 100000 in
set_option maxHeartbeats 1000000 in
theorem t_arr_nil (F : Interp) (v : Value) (l : List UInt8) (w : World) (hF : F.told.answers w.tape) (hl : l.length < 1000000000)
    (h : ∀ w1, Below w.heap.size w w1 → Calls Tryz.prog 55 #[v] w1 fun e w' => e = .returned (.string (mkS l)) ∧ Below w1.heap.size w1 w') :
    Calls Tryz.prog 70 #[.agg #[.iface 48 v]] w fun e w' => e = .returned (.string (mkS (arrT l))) ∧ Below w.heap.size w w' := by
  have H := Lib.hid h
  have HF := Lib.hid hF
  clear h hF
  have q1 := sp_call
  have q2 := sp_guard
  have q3 := sp_op
  have q4 := pr_A
  go_enter Tryz.func70, Tryz.ntmps70
  go_wp2_with (go_at_call 55; (refine (H.out _ (by go_grown)).mono ?_); rintro e w1 ⟨rfl, hg⟩; have hF1 := answers_open (show F.told.answers w1.tape by rw [hg.tape]; exact HF.out))
  go_ret
  exact ⟨by rw [mkS_list, told_A F l hl]; rfl, (bel_tr3 (by go_grown) hg).alloc (bel_tr3 (by go_grown) hg).size _ |>.drew⟩

set_option maxRecDepth 100000 in
set_option maxHeartbeats 1000000 in
theorem t_arr_map (F : Interp) (v : Value) (l : List UInt8) (w : World) (hF : F.told.answers w.tape) (hl : l.length < 1000000000)
    (h : ∀ w1, Below w.heap.size w w1 → Calls Tryz.prog 58 #[v] w1 fun e w' => e = .returned (.string (mkS l)) ∧ Below w1.heap.size w1 w') :
    Calls Tryz.prog 70 #[.agg #[.iface 50 v]] w fun e w' => e = .returned (.string (mkS (arrT l))) ∧ Below w.heap.size w w' := by
  have H := Lib.hid h
  have HF := Lib.hid hF
  clear h hF
  have q1 := sp_call
  have q2 := sp_guard
  have q3 := sp_op
  have q4 := pr_A
  go_enter Tryz.func70, Tryz.ntmps70
  go_wp2_with (go_at_call 58; (refine (H.out _ (by go_grown)).mono ?_); rintro e w1 ⟨rfl, hg⟩; have hF1 := answers_open (show F.told.answers w1.tape by rw [hg.tape]; exact HF.out))
  go_ret
  exact ⟨by rw [mkS_list, told_A F l hl]; rfl, (bel_tr3 (by go_grown) hg).alloc (bel_tr3 (by go_grown) hg).size _ |>.drew⟩

set_option maxRecDepth 100000 in
set_option maxHeartbeats 1000000 in
theorem t_arr_arr (F : Interp) (v : Value) (l : List UInt8) (w : World) (hF : F.told.answers w.tape) (hl : l.length < 1000000000)
    (h : ∀ w1, Below w.heap.size w w1 → Calls Tryz.prog 70 #[v] w1 fun e w' => e = .returned (.string (mkS l)) ∧ Below w1.heap.size w1 w') :
    Calls Tryz.prog 70 #[.agg #[.iface 52 v]] w fun e w' => e = .returned (.string (mkS (arrT l))) ∧ Below w.heap.size w w' := by
  have H := Lib.hid h
  have HF := Lib.hid hF
  clear h hF
  have q1 := sp_call
  have q2 := sp_guard
  have q3 := sp_op
  have q4 := pr_A
  go_enter Tryz.func70, Tryz.ntmps70
  go_wp2_with (go_at_call 70; (refine (H.out _ (by go_grown)).mono ?_); rintro e w1 ⟨rfl, hg⟩; have hF1 := answers_open (show F.told.answers w1.tape by rw [hg.tape]; exact HF.out))
  go_ret
  exact ⟨by rw [mkS_list, told_A F l hl]; rfl, (bel_tr3 (by go_grown) hg).alloc (bel_tr3 (by go_grown) hg).size _ |>.drew⟩

end Go.Proofs.YtgolkhpojmjjfaaGreatFmt

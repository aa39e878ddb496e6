/-
  What is proved here: of arrays nested n deep over any, nil, Map{} or Map{k: any}: the text that String gives, and, over nil and Map{}, that Equal holds exactly when depths and bases agree; that the texts do so, too.
-/
import Derived.Test.YtgolkhpojmjjfaaGreatFmtEn
import Derived.Test.YtgolkhpojmjjfaaGreatFmtSm
namespace Go.Proofs.YtgolkhpojmjjfaaGreatFmt
open Go.ChangeShapes Go.WideShapes Go.ChangeAt Go.RowKit Go.Extern
open Go.Extern.Stop Go.Stop Go.Kit
set_option linter.unusedVariables false
set_option linter.unusedSimpArgs false

/-! ### the plain texts -/
def rep (l : List UInt8) : Nat → List UInt8
  | 0 => []
  | n + 1 => rep l n ++ l
theorem rep_front (l : List UInt8) : ∀ n, rep l (n + 1) = l ++ rep l n
  | 0 => by simp [rep]
  | n + 1 => by
    have h := rep_front l n
    show rep l (n + 1) ++ l = l ++ (rep l n ++ l)
    rw [h, List.append_assoc]
theorem rep_len (l : List UInt8) : ∀ n, (rep l n).length = n * l.length
  | 0 => by simp [rep]
  | n + 1 => by simp [rep, rep_len l n, Nat.succ_mul]
def opens (n : Nat) : List UInt8 := rep [65, 114, 114, 97, 121, 123] n
def closes (n : Nat) : List UInt8 := rep [125] n

/-- the text of a base wrapped n times. -/
def nestT (l : List UInt8) : Nat → List UInt8
  | 0 => l
  | n + 1 => arrT (nestT l n)
theorem nestT_eq (l : List UInt8) : ∀ n, nestT l n = opens n ++ l ++ closes n
  | 0 => by simp [nestT, opens, closes, rep]
  | n + 1 => by
    have h := nestT_eq l n
    show arrT (nestT l n) = _
    rw [h]
    unfold arrT opens closes
    rw [rep_front [65, 114, 114, 97, 121, 123] n]
    show _ = _ ++ rep [65, 114, 114, 97, 121, 123] n ++ l ++ (rep [125] n ++ [125])
    simp [List.append_assoc]
theorem nestT_len (l : List UInt8) (n : Nat) : (nestT l n).length = l.length + 7 * n := by
  rw [nestT_eq]
  simp [opens, closes, rep_len]
  omega

/-! ### the values -/
def nest (v : Value) : Nat → Value
  | 0 => v
  | n + 1 => .iface 52 (.agg #[nest v n])
theorem nest_succ (v : Value) (n : Nat) : nest v (n + 1) = .iface 52 (.agg #[nest v n]) := rfl

/-- a base in a world: its value and its text. -/
def Base (w : World) (v : Value) (l : List UInt8) : Prop :=
  (v = .iface 47 (.agg #[]) ∧ l = [97, 110, 121]) ∨ (v = .iface 48 (.agg #[]) ∧ l = [110, 105, 108]) ∨
  (∃ r c : Nat, w.heap[r]? = some (.map #[] c) ∧ v = .iface 50 (.map (some r)) ∧ l = [77, 97, 112, 123, 125]) ∨
  (∃ (r : Nat) (k : ByteArray), k.size ≤ 100000 ∧ OwnOne w r k ∧ v = .iface 50 (.map (some r)) ∧ l = mapT k)
theorem Base.any {w : World} : Base w (.iface 47 (.agg #[])) [97, 110, 121] := Or.inl ⟨rfl, rfl⟩
theorem Base.nil {w : World} : Base w (.iface 48 (.agg #[])) [110, 105, 108] := Or.inr (Or.inl ⟨rfl, rfl⟩)
theorem Base.map0 {w : World} (r c : Nat) (h : w.heap[r]? = some (.map #[] c)) : Base w (.iface 50 (.map (some r))) [77, 97, 112, 123, 125] := Or.inr (Or.inr (Or.inl ⟨r, c, h, rfl, rfl⟩))
theorem Base.map1 {w : World} (r : Nat) (k : ByteArray) (hk : k.size ≤ 100000) (h : OwnOne w r k) : Base w (.iface 50 (.map (some r))) (mapT k) := Or.inr (Or.inr (Or.inr ⟨r, k, hk, h, rfl, rfl⟩))

theorem Base.below {w w' : World} {v : Value} {l : List UInt8} (h : Base w v l) (hb : Below w.heap.size w w') : Base w' v l := by
  rcases h with ⟨rfl, rfl⟩ | ⟨rfl, rfl⟩ | ⟨r, c, hm, rfl, rfl⟩ | ⟨r, k, hk, ho, rfl, rfl⟩
  · exact .any
  · exact .nil
  · refine .map0 r c ?_
    have hlt : r < w.heap.size := by
      rcases Nat.lt_or_ge r w.heap.size with h | h
      · exact h
      · simp [Array.getElem?_eq_none h] at hm
    exact (hb.block r hlt).trans hm
  · exact .map1 r k hk (ho.kept (gb_of2 hb) (by simp))

theorem Base.len {w : World} {v : Value} {l : List UInt8} (h : Base w v l) : l.length ≤ 100010 := by
  rcases h with ⟨rfl, rfl⟩ | ⟨rfl, rfl⟩ | ⟨r, c, hm, rfl, rfl⟩ | ⟨r, k, hk, ho, rfl, rfl⟩
  · simp
  · simp
  · simp
  · simp [mapT, kvT]; omega

/-- String of a type's value, at its own method. -/
def Says (w : World) (v : Value) (l : List UInt8) : Prop :=
  (∃ p, v = .iface 47 p ∧ ∀ w1, Below w.heap.size w w1 → Calls Tryz.prog 52 #[p] w1 fun e w' => e = .returned (.string (mkS l)) ∧ Below w1.heap.size w1 w') ∨
  (∃ p, v = .iface 48 p ∧ ∀ w1, Below w.heap.size w w1 → Calls Tryz.prog 55 #[p] w1 fun e w' => e = .returned (.string (mkS l)) ∧ Below w1.heap.size w1 w') ∨
  (∃ p, v = .iface 50 p ∧ ∀ w1, Below w.heap.size w w1 → Calls Tryz.prog 58 #[p] w1 fun e w' => e = .returned (.string (mkS l)) ∧ Below w1.heap.size w1 w') ∨
  (∃ p, v = .iface 52 (.agg #[p]) ∧ ∀ w1, Below w.heap.size w w1 → Calls Tryz.prog 70 #[.agg #[p]] w1 fun e w' => e = .returned (.string (mkS l)) ∧ Below w1.heap.size w1 w')

theorem says_base (F : Interp) {w : World} {v : Value} {l : List UInt8} (hF : F.told.answers w.tape) (h : Base w v l) : Says w v l := by
  rcases h with ⟨rfl, rfl⟩ | ⟨rfl, rfl⟩ | ⟨r, c, hm, rfl, rfl⟩ | ⟨r, k, hk, ho, rfl, rfl⟩
  · exact .inl ⟨_, rfl, fun w1 _ => t_any w1⟩
  · exact .inr (.inl ⟨_, rfl, fun w1 _ => t_nil w1⟩)
  · refine .inr (.inr (.inl ⟨_, rfl, fun w1 hb => ?_⟩))
    have hlt : r < w.heap.size := by
      rcases Nat.lt_or_ge r w.heap.size with h | h
      · exact h
      · simp [Array.getElem?_eq_none h] at hm
    exact t_map0 F r c w1 (by rw [hb.tape]; exact hF) ((hb.block r hlt).trans hm)
  · exact .inr (.inr (.inl ⟨_, rfl, fun w1 hb => t_map1 F r k w1 (by rw [hb.tape]; exact hF) hk (ho.kept (gb_of2 hb) (by simp))⟩))

theorem says_nest (F : Interp) {w : World} {v : Value} {l : List UInt8} (hF : F.told.answers w.tape) (h : Base w v l) : ∀ n, n ≤ 256 → Says w (nest v n) (nestT l n)
  | 0, _ => says_base F hF h
  | n + 1, hn => by
    have ih := says_nest F hF h n (by omega)
    have hl : (nestT l n).length < 1000000000 := by rw [nestT_len]; have := h.len; omega
    refine .inr (.inr (.inr ⟨nest v n, rfl, fun w1 hb => ?_⟩))
    have hF1 : F.told.answers w1.tape := by rw [hb.tape]; exact hF
    rcases ih with ⟨p, hp, hc⟩ | ⟨p, hp, hc⟩ | ⟨p, hp, hc⟩ | ⟨p, hp, hc⟩
    · rw [hp]
      exact t_arr_any F p (nestT l n) w1 hF1 hl (fun w2 hb2 => hc w2 (bel_tr3 hb hb2))
    · rw [hp]
      exact t_arr_nil F p (nestT l n) w1 hF1 hl (fun w2 hb2 => hc w2 (bel_tr3 hb hb2))
    · rw [hp]
      exact t_arr_map F p (nestT l n) w1 hF1 hl (fun w2 hb2 => hc w2 (bel_tr3 hb hb2))
    · rw [hp]
      exact t_arr_arr F (.agg #[p]) (nestT l n) w1 hF1 hl (fun w2 hb2 => hc w2 (bel_tr3 hb hb2))

/-! ### Equal over nil and Map{} -/
def baseV (b : Bool) (r : Nat) : Value := if b then .iface 50 (.map (some r)) else .iface 48 (.agg #[])
def baseL (b : Bool) : List UInt8 := if b then [77, 97, 112, 123, 125] else [110, 105, 108]
def HasMap (w : World) (b : Bool) (r : Nat) : Prop := b = true → ∃ c, w.heap[r]? = some (.map #[] c)
theorem HasMap.below {w w' : World} {b : Bool} {r : Nat} (h : HasMap w b r) (hb : Below w.heap.size w w') : HasMap w' b r := fun e => by
  obtain ⟨c, hm⟩ := h e
  have hlt : r < w.heap.size := by
    rcases Nat.lt_or_ge r w.heap.size with h | h
    · exact h
    · simp [Array.getElem?_eq_none h] at hm
  exact ⟨c, (hb.block r hlt).trans hm⟩
theorem base_of (w : World) (b : Bool) (r : Nat) (h : HasMap w b r) : Base w (baseV b r) (baseL b) := by
  cases b
  · exact .nil
  · obtain ⟨c, hm⟩ := h rfl
    exact .map0 r c hm

set_option maxRecDepth 100000 in
theorem map_map0 (r1 r2 c1 c2 : Nat) (w : World) (h1 : w.heap[r1]? = some (.map #[] c1)) (h2 : w.heap[r2]? = some (.map #[] c2)) :
    Calls Tryz.prog 56 #[.map (some r1), .iface 50 (.map (some r2))] w fun e w' => e = .returned (.bool true) ∧ Below w.heap.size w w' := by
  have h3 := q_map_any
  have h4 := as_map_map
  have h5 := fun ty => run_len_empty r1 c1 ty w h1
  have h6 := fun ty => run_len_empty r2 c2 ty w h2
  have h7 := run_range_map (P := Tryz.prog) w 50 9 37 r1 #[] c1 Tryz.underlying50 h1
  have h8 := fun ty => next_empty w ty r1 c1 h1
  clear h1 h2
  go_enter Tryz.func56, Tryz.ntmps56
  go_wp2
  go_rounds 1
  go_ret
  exact ⟨rfl, (Below.refl _ _).alloc (Nat.le_refl _) _⟩

def eqT (n : Nat) (a : Bool) (m : Nat) (b : Bool) : Bool := n == m && a == b

theorem nest_iface (b : Bool) (r : Nat) : ∀ n, ∃ ty y, nest (baseV b r) n = .iface ty y
  | 0 => by cases b <;> exact ⟨_, _, rfl⟩
  | n + 1 => ⟨_, _, rfl⟩

theorem eq_nil (m : Nat) (b : Bool) (r : Nat) (w : World) : Calls Tryz.prog 53 #[.agg #[], nest (baseV b r) m] w fun e w' => e = .returned (.bool (eqT 0 false m b)) ∧ Below w.heap.size w w' := by
  rcases m with _ | m
  · cases b
    · exact e_nil_nil w
    · exact e_nil_map _ w
  · exact e_nil_arr _ w

theorem eq_map (m : Nat) (b : Bool) (r r1 : Nat) (w : World) (h1 : HasMap w true r1) (h2 : HasMap w b r) :
    Calls Tryz.prog 56 #[.map (some r1), nest (baseV b r) m] w fun e w' => e = .returned (.bool (eqT 0 true m b)) ∧ Below w.heap.size w w' := by
  rcases m with _ | m
  · cases b
    · exact e_map_nil _ w
    · obtain ⟨c1, g1⟩ := h1 rfl
      obtain ⟨c2, g2⟩ := h2 rfl
      exact map_map0 r1 r c1 c2 w g1 g2
  · exact e_map_arr _ _ w

theorem eq_arr (n : Nat) : ∀ (m : Nat) (a b : Bool) (r1 r2 : Nat) (w : World), HasMap w a r1 → HasMap w b r2 →
    Calls Tryz.prog 68 #[.agg #[nest (baseV a r1) n], nest (baseV b r2) m] w fun e w' => e = .returned (.bool (eqT (n + 1) a m b)) ∧ Below w.heap.size w w' := by
  induction n with
  | zero =>
    intro m a b r1 r2 w h1 h2
    rcases m with _ | m
    · cases b
      · exact e_arr_nil _ w
      · exact e_arr_map _ _ w
    · have e1 : eqT (0 + 1) a (m + 1) b = eqT 0 a m b := by cases m <;> simp [eqT]
      rw [e1, nest_succ]
      obtain ⟨ty, y, hy⟩ := nest_iface b r2 m
      rw [hy]
      cases a
      · exact s_nil _ y ty _ w fun w1 g => by rw [← hy]; exact eq_nil m b r2 w1
      · exact s_map _ y ty _ w fun w1 g => by rw [← hy]; exact eq_map m b r2 r1 w1 (h1.below g) (h2.below g)
  | succ n ih =>
    intro m a b r1 r2 w h1 h2
    rcases m with _ | m
    · have e1 : eqT (n + 1 + 1) a 0 b = false := by simp [eqT]
      rw [e1]
      cases b
      · exact e_arr_nil _ w
      · exact e_arr_map _ _ w
    · have e1 : eqT (n + 1 + 1) a (m + 1) b = eqT (n + 1) a m b := by simp [eqT]
      rw [e1, nest_succ, nest_succ]
      obtain ⟨ty, y, hy⟩ := nest_iface b r2 m
      rw [hy]
      exact s_arr _ y ty _ w fun w1 g => by rw [← hy]; exact ih m a b r1 r2 w1 (h1.below g) (h2.below g)

/-- the texts are the same just if depths and bases are. -/
theorem texts_eq (n m : Nat) (a b : Bool) : (nestT (baseL a) n = nestT (baseL b) m) ↔ (n = m ∧ a = b) := by
  constructor
  · intro h
    have h1 := congrArg List.length h
    rw [nestT_len, nestT_len] at h1
    cases a <;> cases b <;> simp [baseL] at h1 <;> first | exact ⟨by omega, rfl⟩ | (exfalso; omega)
  · rintro ⟨rfl, rfl⟩
    rfl
end Go.Proofs.YtgolkhpojmjjfaaGreatFmt

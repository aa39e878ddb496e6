/-
  What is proved here: plain laws on a map from strings to selectors, filled from two lists: what it holds at each key, how many keys it has, and when one such map equals another; how picked types read as elements of a map.
-/
import Derived.Test.YtnpmgandmmlilaaGreatFmtPk
import Derived.Maps.OwnSet
import Derived.Maps.RangeWalk
namespace Go.Proofs.YtnpmgandmmlilaaGreatFmt
open Go.ChangeShapes Go.WideShapes Go.ChangeAt Go.RowKit Go.Extern
open Go.Maps (Keyed)
set_option linter.unusedVariables false

abbrev Du := DataW Unit

theorem keyed : Keyed Tryz.prog 9 := Go.Maps.string_keyed Tryz.underlying9

/-- the key that the k-th string reads as; the k-th selector. -/
def keyL (s : ByteArray) : Lit := .string s.data.toList
def strN (ss : List ByteArray) (k : Nat) : ByteArray := ss.getD k ByteArray.empty
def intN (sl : List Int) (k : Nat) : Int := sl.getD k 0
def selN (sl : List Int) (k : Nat) : Nat := (intN sl k % 12).toNat
theorem selN_lt (sl : List Int) (k : Nat) : selN sl k < 12 := by unfold selN; omega
def selD (a : Nat) : Du := .lit (.int .i64 (a : Int))
theorem selD_inj {a b : Nat} (h : selD a = selD b) : a = b := by
  unfold selD at h
  injection h with h
  injection h with _ h
  omega

/-- the map of the first k pairs. -/
def Cm (ss : List ByteArray) (sl : List Int) : Nat → Du
  | 0 => .map []
  | k + 1 => (Cm ss sl k).put (keyL (strN ss k)) (selD (selN sl k))
/-- the selector that the first k pairs leave at a key. -/
def lastS (ss : List ByteArray) (sl : List Int) : Nat → Lit → Option Nat
  | 0, _ => none
  | k + 1, x => if (keyL (strN ss k)).sameKey x then some (selN sl k) else lastS ss sl k x

/-- a datum that is a map from keys to selectors. -/
structure Reads (D : Du) (f : Lit → Option Nat) : Prop where
  tidy : Go.Maps.Tidy D
  has : ∀ x, Maps.has D x = (f x).isSome
  hsome : ∀ {x a}, f x = some a → ∀ z, D.atKey x z = selD a
  hnone : ∀ {x}, f x = none → ∀ z, D.atKey x z = z
  lt : ∀ {x a}, f x = some a → a < 12

theorem keyL_key (s : ByteArray) : WideAt.IsKeyLit (keyL s) := trivial
theorem same_iff {a b : Lit} (ha : WideAt.IsKeyLit a) : a.sameKey b = true ↔ a = b := ⟨WideAt.sameKey_eq, fun h => h ▸ WideAt.sameKey_self ha⟩

theorem Reads.put {D : Du} {f : Lit → Option Nat} (h : Reads D f) (s : ByteArray) {a : Nat} (ha : a < 12) :
    Reads (D.put (keyL s) (selD a)) (fun x => if (keyL s).sameKey x then some a else f x) := by
  refine ⟨h.tidy.put (keyL_key s) _, fun x => ?_, fun {x b} hb z => ?_, fun {x} hb z => ?_, fun {x b} hb => ?_⟩
  · by_cases hx : (keyL s).sameKey x = true
    · have e := (same_iff (keyL_key s)).1 hx
      subst e
      rw [if_pos hx, Go.Maps.has_put_same h.tidy.isMap (keyL_key s)]
      rfl
    · rw [if_neg hx, Go.Maps.has_put_other (fun e => hx (by rw [e]; exact WideAt.sameKey_self (keyL_key s)))]
      exact h.has x
  · by_cases hx : (keyL s).sameKey x = true
    · have e := (same_iff (keyL_key s)).1 hx
      subst e
      rw [if_pos hx] at hb
      cases hb
      exact Go.Maps.atKey_put_same h.tidy.isMap (keyL_key s) _ _
    · rw [if_neg hx] at hb
      rw [Go.Maps.atKey_put_other (fun e => hx (by rw [e]; exact WideAt.sameKey_self (keyL_key s)))]
      exact h.hsome hb z
  · by_cases hx : (keyL s).sameKey x = true
    · rw [if_pos hx] at hb; cases hb
    · rw [if_neg hx] at hb
      rw [Go.Maps.atKey_put_other (fun e => hx (by rw [e]; exact WideAt.sameKey_self (keyL_key s)))]
      exact h.hnone hb z
  · by_cases hx : (keyL s).sameKey x = true
    · rw [if_pos hx] at hb; cases hb; exact ha
    · rw [if_neg hx] at hb; exact h.lt hb

theorem reads_empty : Reads (.map [] : Du) (fun _ => none) :=
  ⟨Go.Maps.tidy_empty, fun _ => rfl, fun {x a} h z => (by cases h), fun {x} _ z => rfl, fun {x a} h => (by cases h)⟩

theorem reads_Cm (ss : List ByteArray) (sl : List Int) : ∀ k, Reads (Cm ss sl k) (lastS ss sl k)
  | 0 => reads_empty
  | k + 1 => (reads_Cm ss sl k).put (strN ss k) (selN_lt sl k)

/-- the keys of the first k pairs are the first k strings. -/
theorem lastS_isSome (ss : List ByteArray) (sl : List Int) (x : Lit) : ∀ k, ((lastS ss sl k x).isSome = true ↔ ∃ i, i < k ∧ keyL (strN ss i) = x)
  | 0 => by simp [lastS]
  | k + 1 => by
    have ih := lastS_isSome ss sl x k
    unfold lastS
    by_cases hx : (keyL (strN ss k)).sameKey x = true
    · rw [if_pos hx]
      exact ⟨fun _ => ⟨k, by omega, (same_iff (keyL_key _)).1 hx⟩, fun _ => rfl⟩
    · rw [if_neg hx, ih]
      constructor
      · rintro ⟨i, hi, e⟩
        exact ⟨i, by omega, e⟩
      · rintro ⟨i, hi, e⟩
        refine ⟨i, ?_, e⟩
        rcases Nat.lt_or_ge i k with h | h
        · exact h
        · have : i = k := by omega
          subst this
          exact absurd (e ▸ WideAt.sameKey_self (keyL_key _)) hx

/-- when a map of selectors equals another, as Map.Equal says it. -/
def EqM (s1 s2 : Nat) (f1 f2 : Lit → Option Nat) : Prop := s1 = s2 ∧ ∀ x a, f1 x = some a → eqS a (f2 x) = true

theorem eqM_refl (s : Nat) (f : Lit → Option Nat) : EqM s s f f := ⟨rfl, fun x a h => by rw [h]; simp [eqS]⟩

/-! ### how a picked type reads as an element -/
theorem pickV_inj {a b : Nat} (ha : a < 12) (hb : b < 12) (h : pickV a = pickV b) : a = b := by
  have key : ∀ a : Fin 12, ∀ b : Fin 12, a.1 < 10 → b.1 < 10 → tyOf a.1 = tyOf b.1 → a.1 = b.1 := by decide +kernel
  rcases (show a < 10 ∨ a = 10 ∨ a = 11 by omega) with h1 | rfl | rfl <;> rcases (show b < 10 ∨ b = 10 ∨ b = 11 by omega) with h2 | rfl | rfl
  · rw [pickV_rt h1, pickV_rt h2] at h
    have e : tyOf a = tyOf b := by simpa [rtV] using h
    exact key ⟨a, ha⟩ ⟨b, hb⟩ h1 h2 e
  · rw [pickV_rt h1, pickV_any] at h; exact absurd (Value.iface.inj h).1 (by decide)
  · rw [pickV_rt h1, pickV_nil] at h; exact absurd (Value.iface.inj h).1 (by decide)
  · rw [pickV_rt h2, pickV_any] at h; exact absurd (Value.iface.inj h).1 (by decide)
  · rfl
  · rw [pickV_any, pickV_nil] at h; exact absurd (Value.iface.inj h).1 (by decide)
  · rw [pickV_rt h2, pickV_nil] at h; exact absurd (Value.iface.inj h).1 (by decide)
  · rw [pickV_any, pickV_nil] at h; exact absurd (Value.iface.inj h).1 (by decide)
  · rfl

theorem pickV_ne (a : Nat) : pickV a ≠ .nilIface := by
  unfold pickV
  split
  · exact fun h => by cases h
  · split <;> exact fun h => by cases h

open Classical in
/-- how an element reads: the selector of a picked type. -/
noncomputable def selElem (v : Value) : Option (Du × List MemPlace) := if h : ∃ k, k < 12 ∧ v = pickV k then some (selD h.choose, []) else none
open Classical in
/-- the same, where the nil interface reads as nil. -/
noncomputable def optElem (v : Value) : Option (Du × List MemPlace) := if v = .nilIface then some (.nil, []) else selElem v

theorem selElem_mk {k : Nat} (h : k < 12) : selElem (pickV k) = some (selD k, []) := by
  unfold selElem
  have hx : ∃ j, j < 12 ∧ pickV k = pickV j := ⟨k, h, rfl⟩
  rw [dif_pos hx]
  have := hx.choose_spec
  rw [← pickV_inj h this.1 this.2]
theorem selElem_inv {v : Value} {z : Du × List MemPlace} (h : selElem v = some z) : ∃ k, k < 12 ∧ v = pickV k ∧ z = (selD k, []) := by
  unfold selElem at h
  split at h
  · rename_i hx
    cases h
    exact ⟨_, hx.choose_spec.1, hx.choose_spec.2, rfl⟩
  · cases h
theorem optElem_of {v : Value} {z : Du × List MemPlace} (h : selElem v = some z) : optElem v = some z := by
  obtain ⟨k, _, rfl, _⟩ := selElem_inv h
  unfold optElem
  rw [if_neg (pickV_ne k)]
  exact h
theorem optElem_nil : optElem .nilIface = some (.nil, []) := by unfold optElem; rw [if_pos rfl]
theorem optElem_inv_sel {v : Value} {a : Nat} {ps : List MemPlace} (ha : a < 12) (h : optElem v = some (selD a, ps)) : v = pickV a := by
  unfold optElem at h
  split at h
  · cases h
  · obtain ⟨k, hk, rfl, e⟩ := selElem_inv h
    rw [selD_inj (congrArg Prod.fst e)]
theorem optElem_inv_nil {v : Value} {ps : List MemPlace} (h : optElem v = some (.nil, ps)) : v = .nilIface := by
  unfold optElem at h
  split at h
  · rename_i e; exact e
  · obtain ⟨k, hk, rfl, e⟩ := selElem_inv h
    cases e

abbrev OwnSel (w : World) (b n : Nat) (D : Du) : Prop := w.ownsMap Tryz.prog 9 selElem b n D

theorem OwnSel.opt {w : World} {b n : Nat} {D : Du} (h : OwnSel w b n D) : w.ownsMap Tryz.prog 9 optElem b n D := by
  obtain ⟨es, clock, hb, F, hs, hD⟩ := h
  obtain ⟨F1, hmap, _⟩ := F.stay (R' := optElem) (fun x _ z hz => optElem_of hz)
  exact ⟨es, clock, hb, F1, hs, by rw [hmap]; exact hD⟩

theorem zeroType (w : World) : (zeroValue 38).run Tryz.prog w = .ok .nilIface w := by kernel_rfl

/-- 'm[k]' at a map of picked types. -/
theorem look_opt {w : World} {b n : Nat} {D : Du} {f : Lit → Option Nat} (h : OwnSel w b n D) (r : Reads D f) (s : ByteArray) (hs : s.size ≤ maxLen) :
    (Instr.lookup 41 (.map (some b)) (.string s) false).run Tryz.prog w = .ok (optV (f (keyL s))) w := by
  obtain ⟨v, ps, hrun, hv⟩ := h.opt.lookup keyed Tryz.underlying41 (zeroType w) optElem_nil (Go.WideMaps.keyOf_string_mk Tryz.underlying9 hs)
  rw [hrun]
  cases hf : f (keyL s) with
  | none =>
    rw [show Lit.string s.data.toList = keyL s from rfl, r.hnone hf] at hv
    rw [optElem_inv_nil hv]
    rfl
  | some a =>
    rw [show Lit.string s.data.toList = keyL s from rfl, r.hsome hf] at hv
    rw [optElem_inv_sel (r.lt hf) hv]
    rfl

theorem keyOf_string_inv {key : Value} {kl : Lit} (h : keyOf Tryz.prog 9 key = some kl) : ∃ s : ByteArray, key = .string s ∧ kl = keyL s ∧ s.size ≤ maxLen := by
  have hk : Tryz.prog.underlying 9 = some .string := Tryz.underlying9
  cases key <;> simp [keyOf, hk, mapKey] at h
  rename_i s
  exact ⟨s, rfl, h.2.symm, h.1⟩

/-- THE STEP OF THE RANGE, strings to picked types. -/
theorem wpList_next_sel {P : Program} (w : World) {ops : Array Oper} {rest : List Oper} {o : Oper} {a : Act} {Q : Exit → Act → World → Prop} (hP : P = Tryz.prog) (hg : o.guard = none) (it : Operand) (hop : o.op = Op.next it false)
    (b r n : Nat) (D : Du) (f : Lit → Option Nat) (hr : Reads D f) (left : Lit → Bool) (cnt : Nat) (hit : a.eval it = .pointer (some ⟨r, 0, none⟩)) (h : w.ranges P 9 selElem b r n D left cnt)
    (hDone : cnt = 0 → (∀ kl, left kl = false) → wpList P ops Q rest (a.put o.dst (.tuple #[.bool false])) w)
    (hMore : ∀ (s : ByteArray) (c : Nat) (w' : World) (cnt' : Nat), s.size ≤ maxLen → c < 12 → f (keyL s) = some c → w'.ranges P 9 selElem b r n D (fun z => left z && !z.sameKey (keyL s)) cnt' → cnt' < cnt →
      w.grownBy w' (some r) → w'.heap.size = w.heap.size → (Instr.entry (.pointer (some ⟨r, 0, none⟩))).run P w' = .ok (.tuple #[.string s, pickV c]) w' → wpList P ops Q rest (a.put o.dst (.tuple #[.bool true, .string s, pickV c])) w') :
    wpList P ops Q (o :: rest) a w := by
  subst hP
  refine wpList_next_ranges w hg it hop 9 keyed selElem Value.string pickV (fun key kl hkey => by obtain ⟨s, rfl, _⟩ := keyOf_string_inv hkey; exact ⟨s, rfl⟩) (fun v y hv => by obtain ⟨c, _, rfl, _⟩ := selElem_inv hv; exact ⟨c, rfl⟩)
    b r n D left cnt hit h hDone (fun s c kl y w' cnt' hkey hlk hv hat hrg hlt hgr hsz hen => ?_)
  obtain ⟨s', es, rfl, hs⟩ := keyOf_string_inv hkey
  cases es
  obtain ⟨c', hc', ec, ey⟩ := selElem_inv hv
  have hhas : f (keyL s) = some c' := by
    cases hf : f (keyL s) with
    | none =>
      have h1 := hat .nil
      rw [hr.hnone hf, ey] at h1
      cases h1
    | some a =>
      have h1 := hat .nil
      rw [hr.hsome hf, ey] at h1
      rw [selD_inj h1]
  rw [ec] at hen ⊢
  exact hMore s c' w' cnt' hs hc' hhas hrg hlt hgr hsz hen
end Go.Proofs.YtnpmgandmmlilaaGreatFmt

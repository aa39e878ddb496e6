/-
  What is proved here: contracts of zzBase (a base and its text), zzBaseText (the text) and zzWrap (the base wrapped n times) of n003_34.
-/
import Derived.Test.YtgolkhpojmjjfaaGreatFmtNs
namespace Go.Proofs.YtgolkhpojmjjfaaGreatFmt
open Go.ChangeShapes Go.WideShapes Go.ChangeAt Go.RowKit Go.Extern
open Go.Extern.Stop Go.Stop Go.Kit
set_option linter.unusedVariables false
set_option linter.unusedSimpArgs false

theorem cat (l m : List UInt8) : mkS l ++ mkS m = mkS (l ++ m) := mkS_eq (by simp [mkS])
theorem cat_str (l : List UInt8) (s : ByteArray) : mkS l ++ s = mkS (l ++ s.data.toList) := mkS_eq (by simp [mkS])

theorem set_last (w : World) (o o' : Obj) : ({ w.alloc o with heap := (w.alloc o).heap.setIfInBounds w.heap.size o' } : World) = w.alloc o' := by
  have e : (w.heap.push o).setIfInBounds w.heap.size o' = w.heap.push o' := by
    apply Array.ext_getElem?
    intro i
    simp only [Array.getElem?_setIfInBounds, Array.getElem?_push, Array.size_push]
    by_cases h : w.heap.size = i
    · subst h; simp
    · simp [h, Ne.symm h]
  show ({ w with heap := (w.heap.push o).setIfInBounds w.heap.size o' } : World) = { w with heap := w.heap.push o' }
  rw [e]

theorem put_new (k : ByteArray) (v : Value) (w : World) :
    (Instr.mapUpdate 50 (.map (some w.heap.size)) (.string k) v).run Tryz.prog (w.alloc (.map #[] 0)) = .ok () (w.alloc (.map #[{ key := .string k, val := v, born := 0 }] 1)) := by
  have h := run_mapUpdate_first (P := Tryz.prog) (w := w.alloc (.map #[] 0)) 50 9 37 w.heap.size 0 k v Tryz.underlying50 Tryz.underlying9 (MapKept.heap_alloc w _).1
  rw [set_last] at h
  exact h

theorem own_one (k : ByteArray) (hk : k.size ≤ 100000) (w : World) : OwnOne (w.alloc (.map #[{ key := .string k, val := .iface 47 (.agg #[]), born := 0 }] 1)) w.heap.size k := by
  obtain ⟨w', hrun, ho, _⟩ := (World.ownsMap_made w Tryz.prog 9 anyElem).update (key := .string k) (val := .iface 47 (.agg #[])) keyedS Tryz.underlying50 (by unfold maxLen; omega) (Go.WideMaps.keyOf_string_mk Tryz.underlying9 (by unfold maxLen; omega)) anyElem_mk
  rw [put_new] at hrun
  cases hrun
  exact ho

/-- the text of the base that b picks. -/
def baseT (b : Int) (k : ByteArray) : List UInt8 := if b % 4 = 0 then [97, 110, 121] else if b % 4 = 1 then [110, 105, 108] else if b % 4 = 2 then [77, 97, 112, 123, 125] else mapT k

def Picked (b : Int) (k : ByteArray) (w : World) (e : Ending) (w' : World) : Prop := ∃ v, e = .returned v ∧ Base w' v (baseT b k) ∧ Below w.heap.size w w'

set_option maxRecDepth 100000 in
theorem base_any (b : Int) (k : ByteArray) (hb : 0 ≤ b) (hb2 : b ≤ 255) (hk : k.size ≤ 100000) (w : World) : Calls Tryz.prog 6 #[.int .u8 b, .string k] w (Picked b k w) := by
  have hmm := @run_makeMap Tryz.prog
  have hpn := put_new k
  rcases (show b % 4 = 0 ∨ b % 4 = 1 ∨ b % 4 = 2 ∨ b % 4 = 3 by omega) with h | h | h | h
  · have e1 : baseT b k = [97, 110, 121] := by simp [baseT, h]
    unfold Picked
    rw [e1]
    go_enter Tryz.func6, Tryz.ntmps6
    go_wp2
    go_ret
    exact ⟨_, rfl, .any, by go_grown⟩
  · have e1 : baseT b k = [110, 105, 108] := by simp [baseT, h]
    unfold Picked
    rw [e1]
    go_enter Tryz.func6, Tryz.ntmps6
    go_wp2
    go_ret
    exact ⟨_, rfl, .nil, by go_grown⟩
  · have e1 : baseT b k = [77, 97, 112, 123, 125] := by simp [baseT, h]
    unfold Picked
    rw [e1]
    go_enter Tryz.func6, Tryz.ntmps6
    go_wp2
    go_ret
    exact ⟨_, rfl, .map0 _ _ (MapKept.heap_alloc w _).1, (Below.refl _ _).alloc (Nat.le_refl _) _⟩
  · have e1 : baseT b k = mapT k := by simp [baseT, h]
    unfold Picked
    rw [e1]
    go_enter Tryz.func6, Tryz.ntmps6
    go_wp2
    go_ret
    exact ⟨_, rfl, .map1 _ _ hk (own_one k hk w), (Below.refl _ _).alloc (Nat.le_refl _) _⟩

set_option maxRecDepth 100000 in
theorem text_any (b : Int) (k : ByteArray) (hb : 0 ≤ b) (hb2 : b ≤ 255) (hk : k.size ≤ 100000) (w : World) : Calls Tryz.prog 8 #[.int .u8 b, .string k] w fun e w' => e = .returned (.string (mkS (baseT b k))) ∧ w = w' := by
  rcases (show b % 4 = 0 ∨ b % 4 = 1 ∨ b % 4 = 2 ∨ b % 4 = 3 by omega) with h | h | h | h
  · have e1 : mkS (baseT b k) = ⟨#[97, 110, 121]⟩ := by simp [baseT, h, mkS]
    rw [e1]
    go_enter Tryz.func8, Tryz.ntmps8
    go_wp2
    go_ret
    exact ⟨rfl, rfl⟩
  · have e1 : mkS (baseT b k) = ⟨#[110, 105, 108]⟩ := by simp [baseT, h, mkS]
    rw [e1]
    go_enter Tryz.func8, Tryz.ntmps8
    go_wp2
    go_ret
    exact ⟨rfl, rfl⟩
  · have e1 : mkS (baseT b k) = ⟨#[77, 97, 112, 123, 125]⟩ := by simp [baseT, h, mkS]
    rw [e1]
    go_enter Tryz.func8, Tryz.ntmps8
    go_wp2
    go_ret
    exact ⟨rfl, rfl⟩
  · have e1 : mkS (baseT b k) = ⟨#[77, 97, 112, 123]⟩ ++ k ++ ⟨#[58, 32, 97, 110, 121, 125]⟩ := (mkS_eq (by simp [baseT, h, mapT, kvT])).symm
    rw [e1]
    go_enter Tryz.func8, Tryz.ntmps8
    go_wp2
    go_ret
    exact ⟨rfl, rfl⟩

theorem array_any (ty : TypeId) (x : Value) (w : World) : Calls Tryz.prog 9 #[.iface ty x] w fun e w' => e = .returned (.iface 52 (.agg #[.iface ty x])) ∧ w = w' := by
  go_enter Tryz.func9, Tryz.ntmps9
  go_wp2
  go_ret
  exact ⟨rfl, rfl⟩

theorem nest_if {v : Value} (hv : ∃ ty x, v = .iface ty x) : ∀ n, ∃ ty x, nest v n = .iface ty x
  | 0 => hv
  | n + 1 => ⟨_, _, rfl⟩
theorem Base.iface {w : World} {v : Value} {l : List UInt8} (h : Base w v l) : ∃ ty x, v = .iface ty x := by
  rcases h with ⟨rfl, rfl⟩ | ⟨rfl, rfl⟩ | ⟨r, c, hm, rfl, rfl⟩ | ⟨r, k, hk, ho, rfl, rfl⟩
  · exact ⟨_, _, rfl⟩
  · exact ⟨_, _, rfl⟩
  · exact ⟨_, _, rfl⟩
  · exact ⟨_, _, rfl⟩

set_option maxRecDepth 100000 in
theorem wrap_any (v : Value) (hv : ∃ ty x, v = .iface ty x) (n : Nat) (hn : n ≤ 256) (w : World) : Calls Tryz.prog 5 #[v, .int .i64 (n : Int)] w fun e w' => e = .returned (nest v n) ∧ w = w' := by
  have H := Lib.hid (nest_if hv)
  obtain ⟨ty, x, rfl⟩ := hv
  go_enter Tryz.func5, Tryz.ntmps5
  go_wp2
  go_loop [0, 5] (fun t i => ∃ k : Nat, k ≤ n ∧ i = .int .i64 k ∧ t = nest (.iface ty x) k) (fun _ i => n - (intOf i).toNat)
  case atStart => exact ⟨0, Nat.zero_le _, rfl, rfl⟩
  case round =>
    obtain ⟨k, hk, rfl, ht⟩ := hrel
    obtain ⟨ty', x', e⟩ := H.out k
    rw [e] at ht
    subst ht
    have HE := Lib.hid e
    clear e
    by_cases hkn : k < n
    · go_wp2_with (go_at_call 9; (with_reducible refine (array_any _ _ _).mono ?_); rintro e w1 ⟨rfl, rfl⟩)
      exact ⟨⟨k + 1, by omega, by go_num, by rw [nest_succ, HE.out]⟩, by simp [intOf]; omega⟩
    · obtain rfl : k = n := by omega
      go_wp2
      go_ret
      exact ⟨by rw [HE.out]; rfl, rfl⟩
end Go.Proofs.YtgolkhpojmjjfaaGreatFmt

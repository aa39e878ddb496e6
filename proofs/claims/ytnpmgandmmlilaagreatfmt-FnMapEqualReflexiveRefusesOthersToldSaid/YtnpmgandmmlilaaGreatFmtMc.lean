/-
  What is proved here: contracts of zzCopyS, zzCopyI (a fresh row with the same elements), zzPairs (the shorter length), zzBytes (some int) of n003_101. Conditions: at most 65536 elements.
-/
import Derived.Test.YtnpmgandmmlilaaGreatFmtMp
import Derived.Laws.MakeOwn
import Derived.OwnWalk
namespace Go.Proofs.YtnpmgandmmlilaaGreatFmt
open Go.ChangeShapes Go.WideShapes Go.ChangeAt Go.RowKit Go.Extern
set_option linter.unusedVariables false
set_option linter.unusedSimpArgs false

/-- a slice of n elements g 0, g 1, .. -/
def Row (w : World) (v : Value) (n : Nat) (g : Nat → Value) : Prop :=
  ∃ a cap, v = .slice a n cap ∧ (n = 0 ∨ ∃ b off, a = some ⟨b, off, none⟩ ∧ b < w.heap.size ∧ ∀ j, j < n → w.cell? ⟨b, off + j, none⟩ = some (g j))

theorem Row.below {w w' : World} {v : Value} {n : Nat} {g : Nat → Value} (h : Row w v n g) (hb : Below w.heap.size w w') : Row w' v n g := by
  obtain ⟨a, cap, rfl, h⟩ := h
  refine ⟨a, cap, rfl, ?_⟩
  rcases h with h | ⟨b, off, rfl, hb', hc⟩
  · exact .inl h
  · exact .inr ⟨b, off, rfl, Nat.lt_of_lt_of_le hb' hb.size, fun j hj => (hb.cell (p := ⟨b, off + j, none⟩) hb').trans (hc j hj)⟩

structure Fill (w wr : World) (B n k : Nat) (g : Nat → Value) (z : Value) : Prop where
  below : Below B w wr
  size : B < wr.heap.size
  done : ∀ j, j < k → wr.cell? ⟨B, j, none⟩ = some (g j)
  rest : ∀ j, k ≤ j → j < n → wr.cell? ⟨B, j, none⟩ = some z
  free : ∀ j, wr.frozen? ⟨B, j, none⟩ = false

theorem fill_start (w : World) (n : Nat) (g : Nat → Value) (z : Value) (T : TypeId) : Fill w (w.alloc (.cells (madeCells #[z] n) T)) w.heap.size n 0 g z := by
  refine ⟨(Below.refl _ _).alloc (Nat.le_refl _) _, by simp, fun j hj => absurd hj (by omega), fun j _ hj => ?_, fun j => ?_⟩
  · rw [World.cell?_alloc_new]
    simp [madeCells, hj, Nat.mod_one]
  · rw [frozen?_alloc_cells]
    simp [World.frozen?]

theorem fill_step {w wr : World} {B n k : Nat} {g : Nat → Value} {z : Value} (h : Fill w wr B n k g z) (hk : k < n) : Fill w (wr.setCell ⟨B, k, none⟩ (g k)) B n (k + 1) g z := by
  have hs : (wr.setCell ⟨B, k, none⟩ (g k)).heap.size = wr.heap.size := by simp [World.setCell]
  refine ⟨h.below.setCell (Nat.le_refl _) _, by rw [hs]; exact h.size, fun j hj => ?_, fun j h1 h2 => ?_, fun j => (World.frozen?_setCell ..).trans (h.free j)⟩
  · by_cases e : j = k
    · subst e; exact World.cell?_setCell_same _ _ _ (h.rest j (Nat.le_refl _) hk)
    · rw [World.cell?_setCell_other _ _ _ _ (fun hh => absurd (congrArg Addr.off hh) (by show ¬ k = j; omega))]; exact h.done j (by omega)
  · rw [World.cell?_setCell_other _ _ _ _ (fun hh => absurd (congrArg Addr.off hh) (by show ¬ k = j; omega))]
    exact h.rest j (by omega) h2

theorem fill_drew {w wr : World} {B n k : Nat} {g : Nat → Value} {z : Value} (h : Fill w wr B n k g z) : Fill w wr.drew B n k g z := ⟨h.below.drew, h.size, h.done, h.rest, h.free⟩

/-- what a copying call gives. -/
def Copied (n : Nat) (g : Nat → Value) (w : World) (e : Ending) (w' : World) : Prop := ∃ v, e = .returned v ∧ Row w' v n g ∧ Below w.heap.size w w'

theorem madeS (n : Nat) (hn : n ≤ 65536) (w : World) : (Instr.makeSlice 45 (.int .i64 n) (.int .i64 n)).run Tryz.prog w = .ok (.slice (some ⟨w.heap.size, 0, none⟩) n n) (w.alloc (.cells (madeCells #[.string ByteArray.empty] n) 9)) := by
  have hinfo : (Tryz.prog.info? 9).map (fun i => (i.zero, i.size, i.bytes)) = some (some (.string ByteArray.empty), 1, 16) := by kernel_rfl
  obtain ⟨i0, hi, hz0, hz1, hz2⟩ := info_parts hinfo
  have := run_make w 45 9 i0 (.string ByteArray.empty) Tryz.underlying45 hi hz0 .i64 .i64 n n (by omega) (Int.le_refl _) (by rw [hz2]; omega) (by omega)
  rw [this, hz1]
  simp [Value.cells]

set_option maxRecDepth 100000 in
theorem copyS_nil (cap : Nat) (ss : List ByteArray) (w : World) : Calls Tryz.prog 13 #[.slice none 0 cap] w (Copied 0 (fun j => .string (strN ss j)) w) := by
  have hq : ∀ w : World, (binOp .eql 45 (.slice none 0 cap) (.slice none 0 0)).run Tryz.prog w = .ok (.bool true) w := fun w => by kernel_rfl
  go_enter Tryz.func13, Tryz.ntmps13
  go_wp2
  go_ret
  exact ⟨_, rfl, ⟨none, _, rfl, .inl rfl⟩, Below.refl _ _⟩

set_option maxRecDepth 100000 in
theorem copyS_some (b off n cap : Nat) (ss : List ByteArray) (hn : n ≤ 65536) (w : World) (hb : b < w.heap.size) (hc : Hid (∀ j, j < n → w.cell? ⟨b, off + j, none⟩ = some (.string (strN ss j)))) :
    Calls Tryz.prog 13 #[.slice (some ⟨b, off, none⟩) n cap] w (Copied n (fun j => .string (strN ss j)) w) := by
  have hmk := madeS n hn
  have hq : ∀ w : World, (binOp .eql 45 (.slice (some ⟨b, off, none⟩) n cap) (.slice none 0 0)).run Tryz.prog w = .ok (.bool false) w := fun w => by kernel_rfl
  go_enter Tryz.func13, Tryz.ntmps13
  go_wp2
  go_loopw [4] (fun i wr => ∃ k : Nat, k ≤ n ∧ i = .int .i64 k ∧ Fill w wr w.heap.size n k (fun j => .string (strN ss j)) (.string ByteArray.empty)) (fun i _ => n - (intOf i).toNat)
  case atStart => exact ⟨0, Nat.zero_le _, rfl, fill_start _ _ _ _ _⟩
  case round =>
    obtain ⟨k, hk, rfl, hF⟩ := hrel
    by_cases hkn : k < n
    · have ck := (hF.below.cell (p := ⟨b, off + k, none⟩) hb).trans (hc.out k hkn)
      have cE := hF.rest k (Nat.le_refl _) hkn
      have fE := hF.free k
      have hsz := hF.size
      have HF := Lib.hid hF
      clear hF
      go_wp2
      refine ⟨⟨k + 1, by omega, by go_num, ?_⟩, by simp [intOf]; omega⟩
      exact fill_step HF.out hkn
    · obtain rfl : k = n := by omega
      go_wp2
      go_ret
      exact ⟨_, rfl, ⟨some ⟨w.heap.size, 0, none⟩, k, rfl, .inr ⟨_, 0, rfl, hF.size, fun j hj => by rw [Nat.zero_add]; exact hF.done j hj⟩⟩, hF.below⟩

set_option maxRecDepth 100000 in
theorem copyS_empty (a : Addr) (cap : Nat) (ss : List ByteArray) (w : World) : Calls Tryz.prog 13 #[.slice (some a) 0 cap] w (Copied 0 (fun j => .string (strN ss j)) w) := by
  have hmk : ∀ w : World, (Instr.makeSlice 45 (.int .i64 0) (.int .i64 0)).run Tryz.prog w = .ok (.slice (some ⟨w.heap.size, 0, none⟩) 0 0) (w.alloc (.cells (madeCells #[.string ByteArray.empty] 0) 9)) := fun w => madeS 0 (by decide) w
  have hq : ∀ w : World, (binOp .eql 45 (.slice (some a) 0 cap) (.slice none 0 0)).run Tryz.prog w = .ok (.bool false) w := fun w => by kernel_rfl
  go_enter Tryz.func13, Tryz.ntmps13
  go_wp2
  go_rounds 1
  go_ret
  exact ⟨_, rfl, ⟨_, _, rfl, .inl rfl⟩, (Below.refl _ _).alloc (Nat.le_refl _) _⟩

theorem copyS_any {w : World} {v : Value} {n : Nat} (ss : List ByteArray) (h : Row w v n (fun j => .string (strN ss j))) (hn : n ≤ 65536) : Calls Tryz.prog 13 #[v] w (Copied n (fun j => .string (strN ss j)) w) := by
  obtain ⟨a, cap, rfl, h⟩ := h
  rcases h with rfl | ⟨b, off, rfl, hb, hc⟩
  · cases a with
    | none => exact copyS_nil cap _ w
    | some a => exact copyS_empty a cap _ w
  · exact copyS_some b off n cap _ hn w hb hc

theorem madeI (n : Nat) (hn : n ≤ 65536) (w : World) : (Instr.makeSlice 46 (.int .i64 n) (.int .i64 n)).run Tryz.prog w = .ok (.slice (some ⟨w.heap.size, 0, none⟩) n n) (w.alloc (.cells (madeCells #[.int .i64 0] n) 3)) := by
  have hinfo : (Tryz.prog.info? 3).map (fun i => (i.zero, i.size, i.bytes)) = some (some (.int .i64 0), 1, 8) := by kernel_rfl
  obtain ⟨i0, hi, hz0, hz1, hz2⟩ := info_parts hinfo
  have := run_make w 46 3 i0 (.int .i64 0) Tryz.underlying46 hi hz0 .i64 .i64 n n (by omega) (Int.le_refl _) (by rw [hz2]; omega) (by omega)
  rw [this, hz1]
  simp [Value.cells]

set_option maxRecDepth 100000 in
theorem copyI_nil (cap : Nat) (sl : List Int) (w : World) : Calls Tryz.prog 14 #[.slice none 0 cap] w (Copied 0 (fun j => .int .i64 (intN sl j)) w) := by
  have hq : ∀ w : World, (binOp .eql 46 (.slice none 0 cap) (.slice none 0 0)).run Tryz.prog w = .ok (.bool true) w := fun w => by kernel_rfl
  go_enter Tryz.func14, Tryz.ntmps14
  go_wp2
  go_ret
  exact ⟨_, rfl, ⟨none, _, rfl, .inl rfl⟩, Below.refl _ _⟩

set_option maxRecDepth 100000 in
theorem copyI_some (b off n cap : Nat) (sl : List Int) (hn : n ≤ 65536) (w : World) (hb : b < w.heap.size) (hc : Hid (∀ j, j < n → w.cell? ⟨b, off + j, none⟩ = some (.int .i64 (intN sl j)))) :
    Calls Tryz.prog 14 #[.slice (some ⟨b, off, none⟩) n cap] w (Copied n (fun j => .int .i64 (intN sl j)) w) := by
  have hmk := madeI n hn
  have hq : ∀ w : World, (binOp .eql 46 (.slice (some ⟨b, off, none⟩) n cap) (.slice none 0 0)).run Tryz.prog w = .ok (.bool false) w := fun w => by kernel_rfl
  go_enter Tryz.func14, Tryz.ntmps14
  go_wp2
  go_loopw [4] (fun i wr => ∃ k : Nat, k ≤ n ∧ i = .int .i64 k ∧ Fill w wr w.heap.size n k (fun j => .int .i64 (intN sl j)) (.int .i64 0)) (fun i _ => n - (intOf i).toNat)
  case atStart => exact ⟨0, Nat.zero_le _, rfl, fill_start _ _ _ _ _⟩
  case round =>
    obtain ⟨k, hk, rfl, hF⟩ := hrel
    by_cases hkn : k < n
    · have ck := (hF.below.cell (p := ⟨b, off + k, none⟩) hb).trans (hc.out k hkn)
      have cE := hF.rest k (Nat.le_refl _) hkn
      have fE := hF.free k
      have hsz := hF.size
      have HF := Lib.hid hF
      clear hF
      go_wp2
      refine ⟨⟨k + 1, by omega, by go_num, ?_⟩, by simp [intOf]; omega⟩
      exact fill_step HF.out hkn
    · obtain rfl : k = n := by omega
      go_wp2
      go_ret
      exact ⟨_, rfl, ⟨some ⟨w.heap.size, 0, none⟩, k, rfl, .inr ⟨_, 0, rfl, hF.size, fun j hj => by rw [Nat.zero_add]; exact hF.done j hj⟩⟩, hF.below⟩

set_option maxRecDepth 100000 in
theorem copyI_empty (a : Addr) (cap : Nat) (sl : List Int) (w : World) : Calls Tryz.prog 14 #[.slice (some a) 0 cap] w (Copied 0 (fun j => .int .i64 (intN sl j)) w) := by
  have hmk : ∀ w : World, (Instr.makeSlice 46 (.int .i64 0) (.int .i64 0)).run Tryz.prog w = .ok (.slice (some ⟨w.heap.size, 0, none⟩) 0 0) (w.alloc (.cells (madeCells #[.int .i64 0] 0) 3)) := fun w => madeI 0 (by decide) w
  have hq : ∀ w : World, (binOp .eql 46 (.slice (some a) 0 cap) (.slice none 0 0)).run Tryz.prog w = .ok (.bool false) w := fun w => by kernel_rfl
  go_enter Tryz.func14, Tryz.ntmps14
  go_wp2
  go_rounds 1
  go_ret
  exact ⟨_, rfl, ⟨_, _, rfl, .inl rfl⟩, (Below.refl _ _).alloc (Nat.le_refl _) _⟩

theorem copyI_any {w : World} {v : Value} {n : Nat} (sl : List Int) (h : Row w v n (fun j => .int .i64 (intN sl j))) (hn : n ≤ 65536) : Calls Tryz.prog 14 #[v] w (Copied n (fun j => .int .i64 (intN sl j)) w) := by
  obtain ⟨a, cap, rfl, h⟩ := h
  rcases h with rfl | ⟨b, off, rfl, hb, hc⟩
  · cases a with
    | none => exact copyI_nil cap _ w
    | some a => exact copyI_empty a cap _ w
  · exact copyI_some b off n cap _ hn w hb hc

theorem pairs_any (a1 a2 : Option Addr) (n1 n2 c1 c2 : Nat) (h1 : n1 ≤ 65536) (h2 : n2 ≤ 65536) (w : World) : Calls Tryz.prog 37 #[.slice a1 n1 c1, .slice a2 n2 c2] w fun e w' => e = .returned (.int .i64 ((min n1 n2 : Nat) : Int)) ∧ w = w' := by
  by_cases h : n2 < n1
  · have e1 : min n1 n2 = n2 := by omega
    rw [e1]
    go_enter Tryz.func37, Tryz.ntmps37
    go_wp2
    go_ret
    exact ⟨rfl, rfl⟩
  · have e1 : min n1 n2 = n1 := by omega
    rw [e1]
    go_enter Tryz.func37, Tryz.ntmps37
    go_wp2
    go_ret
    exact ⟨rfl, rfl⟩

def SomeInt (w : World) (e : Ending) (w' : World) : Prop := ∃ x : Int, e = .returned (.int .i64 x) ∧ w = w'
def SomeBool (w : World) (e : Ending) (w' : World) : Prop := ∃ r : Bool, e = .returned (.bool r) ∧ w = w'

set_option maxRecDepth 100000 in
theorem bytes_zero (a1 a2 : Option Addr) (n2 c1 c2 : Nat) (h2 : n2 ≤ 65536) (w : World) : Calls Tryz.prog 12 #[.slice a1 0 c1, .slice a2 n2 c2] w (SomeInt w) := by
  go_enter Tryz.func12, Tryz.ntmps12
  go_wp2
  go_rounds 1
  go_ret
  exact ⟨_, rfl, rfl⟩

set_option maxRecDepth 100000 in
theorem bytes_some (b off n cap : Nat) (a2 : Option Addr) (n2 c2 : Nat) (ss : List ByteArray) (hn : n ≤ 65536) (h2 : n2 ≤ 65536) (w : World) (hc : Hid (∀ j, j < n → w.cell? ⟨b, off + j, none⟩ = some (.string (strN ss j)))) :
    Calls Tryz.prog 12 #[.slice (some ⟨b, off, none⟩) n cap, .slice a2 n2 c2] w (SomeInt w) := by
  go_enter Tryz.func12, Tryz.ntmps12
  go_wp2
  go_loop [5, 6] (fun t i => ∃ (m : Nat) (x : Int), m ≤ n ∧ i = .int .i64 m ∧ t = .int .i64 x) (fun _ i => n - (intOf i).toNat)
  case atStart => exact ⟨0, _, Nat.zero_le _, rfl, rfl⟩
  case round =>
    obtain ⟨m, x, hm, rfl, rfl⟩ := hrel
    by_cases hmn : m < n
    · have ck := hc.out m hmn
      go_wp2
      exact ⟨⟨m + 1, _, by omega, by go_num, rfl⟩, by simp [intOf]; omega⟩
    · obtain rfl : m = n := by omega
      go_wp2
      go_ret
      exact ⟨_, rfl, rfl⟩

theorem bytes_any {w : World} {v1 v2 : Value} {n1 n2 : Nat} (ss : List ByteArray) (sl : List Int) (h1 : Row w v1 n1 (fun j => .string (strN ss j))) (h2 : Row w v2 n2 (fun j => .int .i64 (intN sl j))) (hn1 : n1 ≤ 65536) (hn2 : n2 ≤ 65536) :
    Calls Tryz.prog 12 #[v1, v2] w (SomeInt w) := by
  obtain ⟨a1, c1, rfl, h1⟩ := h1
  obtain ⟨a2, c2, rfl, h2⟩ := h2
  rcases h1 with rfl | ⟨b, off, rfl, hb, hc⟩
  · exact bytes_zero a1 a2 n2 c1 c2 hn2 w
  · exact bytes_some b off n1 c1 a2 n2 c2 ss hn1 hn2 w hc
end Go.Proofs.YtnpmgandmmlilaaGreatFmt

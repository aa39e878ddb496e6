/-
  What is proved here: zzDistinctStrings_b4 counts the different strings of its slice: the size of the set; and what the set of the first k strings holds.
-/
import Derived.Test.YthhijnemlhjpgaaGreatVt
import Derived.Laws.Strings
import Derived.BigQuiet
import Derived.Deep.QuietTactic
namespace Go.Proofs.YthhijnemlhjpgaaGreat
open Go.ChangeShapes Go.WideShapes Go.ChangeAt Go.RowKit Go.Extern
open Go.Maps (setOf Keyed)
set_option linter.unusedVariables false

theorem keysS_lit (ss : List ByteArray) (k : Nat) : ∀ x ∈ keysS ss k, WideAt.IsKeyLit x := fun x hx => by
  obtain ⟨_, _, rfl⟩ := List.mem_map.1 hx; trivial

def seenS (ss : List ByteArray) (k m : Nat) : Bool := (ss.take m).any (fun y => y.data.toList == (ss.getD k ByteArray.empty).data.toList)

theorem has_setS (ss : List ByteArray) (k : Nat) (x : List UInt8) : Maps.has (setS ss k) (.string x) = (ss.take k).any (fun y => y.data.toList == x) := by
  unfold setS
  rw [Go.Maps.has_setOf _ _ _ (keysS_lit ss k), keysS, List.any_map]
  rfl

theorem size_setS (ss : List ByteArray) (k : Nat) (hk : k < ss.length) : Maps.size (setS ss (k + 1)) = if seenS ss k k then Maps.size (setS ss k) else Maps.size (setS ss k) + 1 := by
  have ht : Go.Maps.Tidy (setS ss k) := Go.Maps.tidy_setOf _ _ (keysS_lit ss k)
  rw [setS_succ ss k hk, Go.Maps.size_put ht, has_setS]
  rfl

theorem size_setS_zero (ss : List ByteArray) : Maps.size (setS ss 0) = 0 := by rw [setS_zero]; rfl

theorem size_setS_le (ss : List ByteArray) (k : Nat) : k ≤ ss.length → Maps.size (setS ss k) ≤ k := by
  induction k with
  | zero => intro _; rw [size_setS_zero]; exact Nat.le_refl _
  | succ k ih =>
    intro h
    have := ih (by omega)
    rw [size_setS ss k (by omega)]
    split <;> omega

theorem seenS_succ (ss : List ByteArray) (k m : Nat) (hm : m < ss.length) : seenS ss k (m + 1) = (seenS ss k m || ((ss.getD m ByteArray.empty).data.toList == (ss.getD k ByteArray.empty).data.toList)) := by
  unfold seenS
  rw [List.take_add_one, List.any_append]
  simp [List.getD, List.getElem?_eq_getElem hm]

theorem seenS_mono (ss : List ByteArray) (k m n : Nat) (h : m ≤ n) (hs : seenS ss k m = true) : seenS ss k n = true := by
  unfold seenS at *
  rw [List.any_eq_true] at *
  obtain ⟨x, hx, he⟩ := hs
  exact ⟨x, List.take_subset_take_left ss h hx, he⟩

set_option maxRecDepth 100000 in
set_option maxHeartbeats 1000000 in
theorem distinctS (B b off n cap : Nat) (ss : List ByteArray) (w : World) (hn : n ≤ 4096) (hz : Hid (n ≤ ss.length)) (hc : Hid (∀ j, j < n → w.cell? ⟨b, off + j, none⟩ = some (.string (ss.getD j ByteArray.empty)))) (hb : b < B) :
    Calls Tryz.prog 15 #[.slice (some ⟨b, off, none⟩) n cap] w fun e w' => e = .returned (.int .i64 (Maps.size (setS ss n) : Nat)) ∧ Below B w w' := by
  go_enter Tryz.func15, Tryz.ntmps15
  go_wp2
  go_loopw [3, 4] (fun c i wr => ∃ k : Nat, k ≤ n ∧ i = .int .i64 k ∧ c = .int .i64 (Maps.size (setS ss k) : Nat) ∧ Below B w wr) (fun _ i _ => n - (intOf i).toNat)
  case atStart => exact ⟨0, Nat.zero_le _, rfl, by rw [size_setS_zero]; rfl, Below.refl _ _⟩
  case round =>
    obtain ⟨k, hk, rfl, rfl, hbel⟩ := hrel
    have hsz : Maps.size (setS ss k) ≤ k := size_setS_le ss k (by have := hz.out; omega)
    have hzl := hz.out
    by_cases hkn : k < n
    · obtain ⟨wo, rfl⟩ : ∃ wo : World, wo = wr := ⟨_, rfl⟩
      go_wp2
      go_loopw [5, 6] (fun s j wx => ∃ m : Nat, m ≤ k ∧ j = .int .i64 m ∧ s = .bool false ∧ seenS ss k m = false ∧ Below B w wx) (fun _ j _ => k - (intOf j).toNat)
      case atStart => exact ⟨0, Nat.zero_le _, rfl, rfl, by simp [seenS], hbel⟩
      case round =>
        obtain ⟨m, hm, rfl, rfl, hsn, hbx⟩ := hrel
        by_cases hmk : m < k
        · have cm := (hbx.cell (p := ⟨b, off + m, none⟩) hb).trans (hc.out m (by omega))
          have ck := (hbx.cell (p := ⟨b, off + k, none⟩) hb).trans (hc.out k hkn)
          have HS := Lib.hid hsn
          clear hsn
          go_wp2
          go_quiet (fail)
          all_goals go_wp2
          · have hh : ((ss.getD m ByteArray.empty).data.toList == (ss.getD k ByteArray.empty).data.toList) = true := by simpa [List.getD, ByteArray.toList_eq] using ‹((ss[m]?.getD ByteArray.empty).toList == (ss[k]?.getD ByteArray.empty).toList) = true›
            have hs : seenS ss k k = true := seenS_mono ss k (m + 1) k (by omega) (by rw [seenS_succ ss k m (by omega), hh]; simp)
            exact ⟨⟨k + 1, by omega, by go_num, by rw [size_setS ss k (by omega), if_pos hs], ⟨hbx.os, hbx.tape, hbx.output, hbx.size, hbx.block⟩⟩, by simp [intOf]; omega⟩
          · have hh : ((ss.getD m ByteArray.empty).data.toList == (ss.getD k ByteArray.empty).data.toList) = false := by simpa [List.getD, ByteArray.toList_eq] using ‹((ss[m]?.getD ByteArray.empty).toList == (ss[k]?.getD ByteArray.empty).toList) = false›
            exact ⟨⟨m + 1, by omega, by go_num, rfl, by rw [seenS_succ ss k m (by omega), hh, HS.out]; rfl, ⟨hbx.os, hbx.tape, hbx.output, hbx.size, hbx.block⟩⟩, by simp [intOf]; omega⟩
        · obtain rfl : m = k := by omega
          have HS := Lib.hid hsn
          clear hsn
          go_wp2
          have hq : seenS ss m m = false := HS.out
          exact ⟨⟨m + 1, by omega, by go_num, by rw [size_setS ss m (by omega), if_neg (by rw [hq]; exact Bool.false_ne_true)]; go_num, hbx⟩, by simp [intOf]; omega⟩
    · obtain rfl : k = n := by omega
      go_wp2
      go_ret
      exact ⟨rfl, hbel⟩
end Go.Proofs.YthhijnemlhjpgaaGreat

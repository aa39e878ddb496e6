/-
  What is proved here: zzDistinctInts_b4 counts the different integers of its slice: the size of the set; and what the set of the first k integers holds.
-/
import Derived.Test.YthhijnemlhjpgaaGreatVi
import Derived.BigQuiet
import Derived.Deep.QuietTactic
namespace Go.Proofs.YthhijnemlhjpgaaGreat
open Go.ChangeShapes Go.WideShapes Go.ChangeAt Go.RowKit Go.Extern
open Go.Maps (setOf Keyed)
set_option linter.unusedVariables false

theorem keysI_lit (zs : List Int) (k : Nat) : ∀ x ∈ keysI zs k, WideAt.IsKeyLit x := fun x hx => by
  obtain ⟨_, _, rfl⟩ := List.mem_map.1 hx; trivial

def seenI (zs : List Int) (k m : Nat) : Bool := (zs.take m).any (fun y => y == zs.getD k 0)

theorem has_setI (zs : List Int) (k : Nat) (x : Int) : Maps.has (setI zs k) (.int .i64 x) = (zs.take k).any (fun y => y == x) := by
  unfold setI
  rw [Go.Maps.has_setOf _ _ _ (keysI_lit zs k), keysI, List.any_map]
  congr 1
  funext y
  show decide (IntKind.i64 = IntKind.i64 ∧ y = x) = (y == x)
  by_cases e : y = x <;> simp [e]

theorem size_setI (zs : List Int) (k : Nat) (hk : k < zs.length) : Maps.size (setI zs (k + 1)) = if seenI zs k k then Maps.size (setI zs k) else Maps.size (setI zs k) + 1 := by
  have ht : Go.Maps.Tidy (setI zs k) := Go.Maps.tidy_setOf _ _ (keysI_lit zs k)
  rw [setI_succ zs k hk, Go.Maps.size_put ht, has_setI]
  rfl

theorem size_setI_zero (zs : List Int) : Maps.size (setI zs 0) = 0 := by rw [setI_zero]; rfl

theorem size_setI_le (zs : List Int) (k : Nat) : k ≤ zs.length → Maps.size (setI zs k) ≤ k := by
  induction k with
  | zero => intro _; rw [size_setI_zero]; exact Nat.le_refl _
  | succ k ih =>
    intro h
    have := ih (by omega)
    rw [size_setI zs k (by omega)]
    split <;> omega

theorem seenI_succ (zs : List Int) (k m : Nat) (hm : m < zs.length) : seenI zs k (m + 1) = (seenI zs k m || (zs.getD m 0 == zs.getD k 0)) := by
  unfold seenI
  rw [List.take_add_one, List.any_append]
  simp [List.getD, List.getElem?_eq_getElem hm]

theorem seenI_mono (zs : List Int) (k m n : Nat) (h : m ≤ n) (hs : seenI zs k m = true) : seenI zs k n = true := by
  unfold seenI at *
  rw [List.any_eq_true] at *
  obtain ⟨x, hx, he⟩ := hs
  exact ⟨x, List.take_subset_take_left zs h hx, he⟩

set_option maxRecDepth 100000 in
set_option maxHeartbeats 1000000 in
theorem distinctI (B b off n cap : Nat) (zs : List Int) (w : World) (hn : n ≤ 4096) (hz : Hid (n ≤ zs.length)) (hc : Hid (∀ j, j < n → w.cell? ⟨b, off + j, none⟩ = some (.int .i64 (zs.getD j 0)))) (hb : b < B) :
    Calls Tryz.prog 12 #[.slice (some ⟨b, off, none⟩) n cap] w fun e w' => e = .returned (.int .i64 (Maps.size (setI zs n) : Nat)) ∧ Below B w w' := by
  go_enter Tryz.func12, Tryz.ntmps12
  go_wp2
  go_loopw [3, 4] (fun c i wr => ∃ k : Nat, k ≤ n ∧ i = .int .i64 k ∧ c = .int .i64 (Maps.size (setI zs k) : Nat) ∧ Below B w wr) (fun _ i _ => n - (intOf i).toNat)
  case atStart => exact ⟨0, Nat.zero_le _, rfl, by rw [size_setI_zero]; rfl, Below.refl _ _⟩
  case round =>
    obtain ⟨k, hk, rfl, rfl, hbel⟩ := hrel
    have hsz : Maps.size (setI zs k) ≤ k := size_setI_le zs k (by have := hz.out; omega)
    have hzl := hz.out
    by_cases hkn : k < n
    · obtain ⟨wo, rfl⟩ : ∃ wo : World, wo = wr := ⟨_, rfl⟩
      go_wp2
      go_loopw [5, 6] (fun s j wx => ∃ m : Nat, m ≤ k ∧ j = .int .i64 m ∧ s = .bool false ∧ seenI zs k m = false ∧ Below B w wx) (fun _ j _ => k - (intOf j).toNat)
      case atStart => exact ⟨0, Nat.zero_le _, rfl, rfl, by simp [seenI], hbel⟩
      case round =>
        obtain ⟨m, hm, rfl, rfl, hsn, hbx⟩ := hrel
        by_cases hmk : m < k
        · have cm := (hbx.cell (p := ⟨b, off + m, none⟩) hb).trans (hc.out m (by omega))
          have ck := (hbx.cell (p := ⟨b, off + k, none⟩) hb).trans (hc.out k hkn)
          have HS := Lib.hid hsn
          clear hsn
          go_wp2
          go_quiet (fail)
          all_goals go_wp2
          · have hh : (zs.getD m 0 == zs.getD k 0) = true := by simpa [List.getD] using ‹(zs[m]?.getD 0 == zs[k]?.getD 0) = true›
            have hs : seenI zs k k = true := seenI_mono zs k (m + 1) k (by omega) (by rw [seenI_succ zs k m (by omega), hh]; simp)
            exact ⟨⟨k + 1, by omega, by go_num, by rw [size_setI zs k (by omega), if_pos hs], ⟨hbx.os, hbx.tape, hbx.output, hbx.size, hbx.block⟩⟩, by simp [intOf]; omega⟩
          · have hh : (zs.getD m 0 == zs.getD k 0) = false := by simpa [List.getD] using ‹(zs[m]?.getD 0 == zs[k]?.getD 0) = false›
            exact ⟨⟨m + 1, by omega, by go_num, rfl, by rw [seenI_succ zs k m (by omega), hh, HS.out]; rfl, ⟨hbx.os, hbx.tape, hbx.output, hbx.size, hbx.block⟩⟩, by simp [intOf]; omega⟩
        · obtain rfl : m = k := by omega
          have HS := Lib.hid hsn
          clear hsn
          go_wp2
          have hq : seenI zs m m = false := HS.out
          exact ⟨⟨m + 1, by omega, by go_num, by rw [size_setI zs m (by omega), if_neg (by rw [hq]; exact Bool.false_ne_true)]; go_num, hbx⟩, by simp [intOf]; omega⟩
    · obtain rfl : k = n := by omega
      go_wp2
      go_ret
      exact ⟨rfl, hbel⟩
end Go.Proofs.YthhijnemlhjpgaaGreat

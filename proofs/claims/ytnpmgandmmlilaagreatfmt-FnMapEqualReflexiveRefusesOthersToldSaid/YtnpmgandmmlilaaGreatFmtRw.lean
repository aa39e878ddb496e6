/-
  What is proved here: a slice of strings or ints that came in is a row in the sense of 'Row'; bounds on its elements; the law's own look at the lengths (zzBytes_..) of n003_101 answers some bool.
-/
import Derived.Test.YtnpmgandmmlilaaGreatFmtMe
namespace Go.Proofs.YtnpmgandmmlilaaGreatFmt
open Go.ChangeShapes Go.WideShapes Go.ChangeAt Go.RowKit Go.Extern
set_option linter.unusedVariables false
set_option linter.unusedSimpArgs false

theorem row_of (w : World) (a : Option Addr) (len cap : Nat) (g : Nat → Value) (h : (a = none ∧ len = 0) ∨ ∃ x, a = some x ∧ ∀ i, i < len → w.cell? (x.add i) = some (g i)) : Row w (.slice a len cap) len g := by
  refine ⟨a, cap, rfl, ?_⟩
  rcases Nat.eq_zero_or_pos len with h0 | h0
  · exact .inl h0
  rcases h with ⟨_, h⟩ | ⟨x, rfl, hcell⟩
  · exact .inl h
  obtain ⟨b, off, st⟩ := x
  have c0 := hcell 0 h0
  have hst : st = none := by
    cases st with
    | none => rfl
    | some y =>
      exfalso
      have hs : ((⟨b, off, some y⟩ : Addr).add 0).spot.isSome = true := by simp [Addr.add]
      unfold World.cell? at c0
      split at c0
      · rw [if_pos hs] at c0; cases c0
      · cases c0
  subst hst
  have hc : ∀ j, j < len → w.cell? ⟨b, off + j, none⟩ = some (g j) := fun j hj => by
    have h := hcell j hj
    have e : (⟨b, off, none⟩ : Addr).add j = ⟨b, off + j, none⟩ := by simp [Addr.add]
    rwa [e] at h
  exact .inr ⟨b, off, rfl, World.block_lt_of_cell? _ _ (hc 0 h0), hc⟩

theorem str_bound (ss : List ByteArray) (h : ∀ s ∈ ss, s.size ≤ maxLen) (j : Nat) : (strN ss j).size ≤ maxLen := by
  unfold strN
  rw [List.getD]
  cases e : ss[j]? with
  | none => simp
  | some s => exact h s (List.mem_of_getElem? e)
theorem int_bound (zs : List Int) (h : ∀ n ∈ zs, (Lit.int .i64 n).wf = true) (j : Nat) : -9223372036854775808 ≤ intN zs j ∧ intN zs j ≤ 9223372036854775807 := by
  unfold intN
  rw [List.getD]
  cases e : zs[j]? with
  | none => simp
  | some n =>
    have := h n (List.mem_of_getElem? e)
    simp [Lit.wf, IntKind.min, IntKind.max, IntKind.signed, IntKind.bits] at this
    simp
    omega

theorem strs_of {w : World} {a : Option Addr} {len cap : Nat} {zs : List ByteArray}
    (h : (a = none ∧ len = 0 ∧ cap = 0 ∧ zs = []) ∨ ∃ x, a = some x ∧ len ≤ cap ∧ cap ≤ maxLen ∧ zs.length = cap ∧ (∀ i, i < zs.length → w.cell? (x.add i) = some (.string (zs.getD i ByteArray.empty))) ∧ ∀ s ∈ zs, s.size ≤ maxLen) :
    Row w (.slice a len cap) len (fun j => .string (strN zs j)) ∧ (∀ j, (strN zs j).size ≤ maxLen) ∧ len ≤ 9223372036854775807 := by
  rcases h with ⟨rfl, rfl, rfl, rfl⟩ | ⟨x, rfl, hl, hc, hz, hcell, hb⟩
  · exact ⟨row_of w _ _ _ _ (.inl ⟨rfl, rfl⟩), str_bound [] (fun s hs => by cases hs), by omega⟩
  · exact ⟨row_of w _ _ _ _ (.inr ⟨x, rfl, fun i hi => hcell i (by omega)⟩), str_bound zs hb, by unfold maxLen at hc; omega⟩

theorem ints_of {w : World} {a : Option Addr} {len cap : Nat} {zs : List Int}
    (h : (a = none ∧ len = 0 ∧ cap = 0 ∧ zs = []) ∨ ∃ x, a = some x ∧ len ≤ cap ∧ cap ≤ maxLen ∧ zs.length = cap ∧ (∀ i, i < zs.length → w.cell? (x.add i) = some (.int .i64 (zs.getD i 0))) ∧ ∀ n ∈ zs, (Lit.int .i64 n).wf = true) :
    Row w (.slice a len cap) len (fun j => .int .i64 (intN zs j)) ∧ (∀ j, -9223372036854775808 ≤ intN zs j ∧ intN zs j ≤ 9223372036854775807) ∧ len ≤ 9223372036854775807 := by
  rcases h with ⟨rfl, rfl, rfl, rfl⟩ | ⟨x, rfl, hl, hc, hz, hcell, hb⟩
  · exact ⟨row_of w _ _ _ _ (.inl ⟨rfl, rfl⟩), int_bound [] (fun s hs => by cases hs), by omega⟩
  · exact ⟨row_of w _ _ _ _ (.inr ⟨x, rfl, fun i hi => hcell i (by omega)⟩), int_bound zs hb, by unfold maxLen at hc; omega⟩
end Go.Proofs.YtnpmgandmmlilaaGreatFmt

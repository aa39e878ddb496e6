/-
  What is proved here: FnInArrayStringSetExact returns true for every slice of strings, every int8 and every int.
-/
import Derived.Test.YthhijnemlhjpgaaGreatSa
import Derived.Test.YthhijnemlhjpgaaGreatSb
import Derived.Test.YthhijnemlhjpgaaGreatLw
namespace Go.Proofs.YthhijnemlhjpgaaGreat
open Go.ChangeShapes Go.WideShapes Go.ChangeAt Go.RowKit Go.Extern
set_option linter.unusedVariables false

theorem walkS (a : Option Addr) (len cap : Nat) (ss : List ByteArray) (k sp : Int) (w : World)
    (w0 : (a = none ∧ len = 0 ∧ cap = 0 ∧ ss = []) ∨ ∃ x, a = some x ∧ len ≤ cap ∧ cap ≤ maxLen ∧ ss.length = cap ∧ (∀ i, i < ss.length → w.cell? (x.add i) = some (.string (ss.getD i ByteArray.empty))) ∧ ∀ s ∈ ss, s.size ≤ maxLen)
    (w1 : (Lit.int .i8 k).wf = true) :
    Calls Tryz.prog 4 #[.slice a len cap, .int .i8 k, .int .i64 sp] w fun e w' => e = .returned (.bool true) ∧ Below w.heap.size w w' := by
  have hb := bounds8 k w1
  rcases Nat.eq_zero_or_pos len with h0 | h0
  · subst h0
    rcases zm_three k with h | h | h
    · exact lawS_0_0 a cap k sp w h hb.1 hb.2
    · exact lawS_1_0 a cap k sp w h hb.1 hb.2
    · exact lawS_2_0 a cap k sp w h hb.1 hb.2
  · rcases w0 with ⟨_, hl, _, _⟩ | ⟨x, rfl, hlc, hcm, hzl, hcell, hwf⟩
    · omega
    · obtain ⟨b, off, st⟩ := x
      have c0 := hcell 0 (by omega)
      have hst : st = none := by
        cases st with
        | none => rfl
        | some y =>
          exfalso
          have hs : ((⟨b, off, some y⟩ : Addr).add 0).spot.isSome = true := by simp [Addr.add]
          unfold World.cell? at c0
          split at c0
          · rw [if_pos hs] at c0; cases c0
          · cases c0
      subst hst
      have hc : ∀ j, j < len → w.cell? ⟨b, off + j, none⟩ = some (.string (ss.getD j ByteArray.empty)) := fun j hj => by
        have h := hcell j (by omega)
        rwa [addMid] at h
      have hbs : b < w.heap.size := World.block_lt_of_cell? _ _ (hc 0 h0)
      have hw : ∀ j, j < len → (ss.getD j ByteArray.empty).size ≤ maxLen := fun j hj => hwf _ (by
        rw [List.getD, List.getElem?_eq_getElem (show j < ss.length by omega)]; exact List.getElem_mem _)
      have hz : len ≤ ss.length := by omega
      by_cases hbig : len ≤ 4096
      · by_cases hsp : 0 ≤ sp ∧ sp < len
        · obtain ⟨s, rfl⟩ : ∃ s : Nat, sp = s := ⟨sp.toNat, by omega⟩
          have hs : s < len := by omega
          rcases zm_three k with h | h | h
          · exact lawS_0_s b off len cap ss k s hs w h hb.1 hb.2 h0 hbig hz hbs hw hc
          · exact lawS_1_s b off len cap ss k s hs w h hb.1 hb.2 h0 hbig hz hbs hw hc
          · exact lawS_2_s b off len cap ss k s hs w h hb.1 hb.2 h0 hbig hz hbs hw hc
        · have hsp' : sp < 0 ∨ (len : Int) ≤ sp := by omega
          rcases zm_three k with h | h | h
          · exact lawS_0_n b off len cap ss k sp hsp' w h hb.1 hb.2 h0 hbig hz hbs hw hc
          · exact lawS_1_n b off len cap ss k sp hsp' w h hb.1 hb.2 h0 hbig hz hbs hw hc
          · exact lawS_2_n b off len cap ss k sp hsp' w h hb.1 hb.2 h0 hbig hz hbs hw hc
      · have hm : len ≤ 9223372036854775807 := by unfold maxLen at hcm; omega
        exact lawS_big b off len cap ss k sp w hbig hm hc
end Go.Proofs.YthhijnemlhjpgaaGreat

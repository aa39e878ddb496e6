/-
  What is proved here: FnInArrayIntSetExact returns true for every slice of ints, every int8 and every int.
-/
import Derived.Test.YthhijnemlhjpgaaGreatLa
import Derived.Test.YthhijnemlhjpgaaGreatLc
import Derived.Test.YthhijnemlhjpgaaGreatIl
namespace Go.Proofs.YthhijnemlhjpgaaGreat
open Go.ChangeShapes Go.WideShapes Go.ChangeAt Go.RowKit Go.Extern
set_option linter.unusedVariables false

theorem addMid (b o j : Nat) : (⟨b, o, none⟩ : Addr).add j = ⟨b, o + j, none⟩ := by unfold Addr.add; split <;> simp_all

theorem walkI (a : Option Addr) (len cap : Nat) (zs : List Int) (k sp : Int) (w : World)
    (w0 : (a = none ∧ len = 0 ∧ cap = 0 ∧ zs = []) ∨ ∃ x, a = some x ∧ len ≤ cap ∧ cap ≤ maxLen ∧ zs.length = cap ∧ (∀ i, i < zs.length → w.cell? (x.add i) = some (.int .i64 (zs.getD i 0))) ∧ ∀ n ∈ zs, (Lit.int .i64 n).wf = true)
    (w1 : (Lit.int .i8 k).wf = true) :
    Calls Tryz.prog 3 #[.slice a len cap, .int .i8 k, .int .i64 sp] w fun e w' => e = .returned (.bool true) ∧ Below w.heap.size w w' := by
  have hb := bounds8 k w1
  by_cases hbig : len ≤ 4096
  · rcases Nat.eq_zero_or_pos len with h0 | h0
    · subst h0
      rcases zm_three k with h | h | h
      · exact lawI_0_0 a cap k sp w h hb.1 hb.2
      · exact lawI_1_0 a cap k sp w h hb.1 hb.2
      · exact lawI_2_0 a cap k sp w h hb.1 hb.2
    · rcases w0 with ⟨_, hl, _, _⟩ | ⟨x, rfl, hlc, hcm, hzl, hcell, hwf⟩
      · omega
      · obtain ⟨b, off, st⟩ := x
        have c0 := hcell 0 (by omega)
        have hst : st = none := by
          cases st with
          | none => rfl
          | some y =>
            exfalso
            have hs : ((⟨b, off, some y⟩ : Addr).add 0).spot.isSome = true := by simp [Addr.add]
            unfold World.cell? at c0
            split at c0
            · rw [if_pos hs] at c0; cases c0
            · cases c0
        subst hst
        have hc : ∀ j, j < len → w.cell? ⟨b, off + j, none⟩ = some (.int .i64 (zs.getD j 0)) := fun j hj => by
          have h := hcell j (by omega)
          rwa [addMid] at h
        have hbs : b < w.heap.size := World.block_lt_of_cell? _ _ (hc 0 h0)
        have hw : ∀ j, j < len → (Lit.int .i64 (zs.getD j 0)).wf = true := fun j hj => hwf _ (by
          rw [List.getD, List.getElem?_eq_getElem (show j < zs.length by omega)]; exact List.getElem_mem _)
        have hz : len ≤ zs.length := by omega
        by_cases hsp : 0 ≤ sp ∧ sp < len
        · obtain ⟨s, rfl⟩ : ∃ s : Nat, sp = s := ⟨sp.toNat, by omega⟩
          have hs : s < len := by omega
          rcases zm_three k with h | h | h
          · exact lawI_0_s b off len cap zs k s hs w h hb.1 hb.2 h0 hbig hz hbs hw hc
          · exact lawI_1_s b off len cap zs k s hs w h hb.1 hb.2 h0 hbig hz hbs hw hc
          · exact lawI_2_s b off len cap zs k s hs w h hb.1 hb.2 h0 hbig hz hbs hw hc
        · have hsp' : sp < 0 ∨ (len : Int) ≤ sp := by omega
          rcases zm_three k with h | h | h
          · exact lawI_0_n b off len cap zs k sp hsp' w h hb.1 hb.2 h0 hbig hz hbs hw hc
          · exact lawI_1_n b off len cap zs k sp hsp' w h hb.1 hb.2 h0 hbig hz hbs hw hc
          · exact lawI_2_n b off len cap zs k sp hsp' w h hb.1 hb.2 h0 hbig hz hbs hw hc
  · have hm : len ≤ 9223372036854775807 := by
      rcases w0 with ⟨_, hl, _, _⟩ | ⟨x, _, hlc, hcm, _⟩
      · omega
      · unfold maxLen at hcm; omega
    exact lawI_big a len cap k sp w hbig hm
end Go.Proofs.YthhijnemlhjpgaaGreat

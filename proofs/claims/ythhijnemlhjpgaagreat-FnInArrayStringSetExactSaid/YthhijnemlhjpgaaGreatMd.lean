/-
  What is proved here: 'Mod T w w'': the world w' is w with new blocks and with writes to the cells that T names, and no others; how an allocation, a store and a draw hand it on; what it gives of cells and of the frame.
-/
import Derived.Test.YthhijnemlhjpgaaGreatRf
namespace Go.Proofs.YthhijnemlhjpgaaGreat
open Go.ChangeShapes Go.WideShapes Go.ChangeAt Go.RowKit Go.Extern
set_option linter.unusedVariables false

structure Mod (T : Nat → Nat → Prop) (w w' : World) : Prop where
  os : w'.os = w.os
  tape : w'.tape = w.tape
  output : w'.output = w.output
  size : w.heap.size ≤ w'.heap.size
  cell : ∀ k o, k < w.heap.size → ¬ T k o → w'.cell? ⟨k, o, none⟩ = w.cell? ⟨k, o, none⟩
  block : ∀ k, k < w.heap.size → (∀ o, ¬ T k o) → w'.heap[k]? = w.heap[k]?
  frozen : ∀ a, w'.frozen? a = w.frozen? a

theorem Mod.refl (T : Nat → Nat → Prop) (w : World) : Mod T w w := ⟨rfl, rfl, rfl, Nat.le_refl _, fun _ _ _ _ => rfl, fun _ _ _ => rfl, fun _ => rfl⟩

theorem Mod.trans {T : Nat → Nat → Prop} {a b c : World} (h : Mod T a b) (g : Mod T b c) : Mod T a c :=
  ⟨g.os.trans h.os, g.tape.trans h.tape, g.output.trans h.output, Nat.le_trans h.size g.size,
   fun k o hk hT => (g.cell k o (Nat.lt_of_lt_of_le hk h.size) hT).trans (h.cell k o hk hT),
   fun k hk hT => (g.block k (Nat.lt_of_lt_of_le hk h.size) hT).trans (h.block k hk hT), fun x => (g.frozen x).trans (h.frozen x)⟩

theorem Mod.mono {T U : Nat → Nat → Prop} {a b : World} (h : Mod T a b) (hTU : ∀ k o, k < a.heap.size → T k o → U k o) : Mod U a b :=
  ⟨h.os, h.tape, h.output, h.size, fun k o hk hU => h.cell k o hk (fun t => hU (hTU k o hk t)), fun k hk hU => h.block k hk (fun o t => hU o (hTU k o hk t)), h.frozen⟩

theorem Mod.alloc {T : Nat → Nat → Prop} {a w : World} (h : Mod T a w) (c : Array Value) (t : TypeId) : Mod T a (w.alloc (.cells c t)) :=
  h.trans ⟨rfl, rfl, rfl, by simp, fun k o hk _ => World.cell?_alloc_lt _ _ _ hk, fun k hk _ => Below.heap_alloc _ _ _ hk, fun x => frozen?_alloc_cells _ _ _ x⟩

theorem Mod.allocMap {T : Nat → Nat → Prop} {a w : World} (h : Mod T a w) (es : Array MapEntry) (n : Nat) : Mod T a (w.alloc (.map es n)) :=
  h.trans ⟨rfl, rfl, rfl, by simp, fun k o hk _ => World.cell?_alloc_lt _ _ _ hk, fun k hk _ => Below.heap_alloc _ _ _ hk, fun x => frozen?_alloc_map _ _ _ x⟩

theorem Mod.drew {T : Nat → Nat → Prop} {a w : World} (h : Mod T a w) : Mod T a w.drew := ⟨h.os, h.tape, h.output, h.size, h.cell, h.block, h.frozen⟩

theorem Mod.setCell {T : Nat → Nat → Prop} {a w : World} (h : Mod T a w) {b o : Nat} (hT : a.heap.size ≤ b ∨ T b o) (v : Value) : Mod T a (w.setCell ⟨b, o, none⟩ v) := by
  refine ⟨h.os, h.tape, h.output, by simpa [World.setCell] using h.size, fun k p hk hn => ?_, fun k hk hn => ?_, fun x => (World.frozen?_setCell ..).trans (h.frozen x)⟩
  · rw [World.cell?_setCell_other, h.cell k p hk hn]
    intro e
    simp only [Addr.mk.injEq] at e
    obtain ⟨rfl, rfl, _⟩ := e
    rcases hT with hT | hT
    · omega
    · exact hn hT
  · rw [Below.heap_setCell, h.block k hk hn]
    rintro rfl
    rcases hT with hT | hT
    · exact absurd hT (by omega)
    · exact hn _ hT

theorem Mod.below {T : Nat → Nat → Prop} {a b : World} (h : Mod T a b) (B : Nat) (hB : B ≤ a.heap.size) (hT : ∀ k o, T k o → B ≤ k) : Below B a b :=
  ⟨h.os, h.tape, h.output, h.size, fun k hk => h.block k (by omega) (fun o t => by have := hT k o t; omega)⟩

theorem Mod.get {T : Nat → Nat → Prop} {a b : World} (h : Mod T a b) {k o : Nat} {v : Value} (hk : k < a.heap.size) (hT : ¬ T k o) (hc : a.cell? ⟨k, o, none⟩ = some v) : b.cell? ⟨k, o, none⟩ = some v :=
  (h.cell k o hk hT).trans hc

theorem Below.grownAll {W W' : World} (h : Below W.heap.size W W') (hf : ∀ a, W'.frozen? a = W.frozen? a) : Grown W W' :=
  ⟨h.frame _, hf, h.size⟩
end Go.Proofs.YthhijnemlhjpgaaGreat

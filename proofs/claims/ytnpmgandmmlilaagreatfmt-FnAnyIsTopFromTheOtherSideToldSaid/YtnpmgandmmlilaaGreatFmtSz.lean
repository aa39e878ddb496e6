/-
  What is proved here: contracts of the functions that n003_64 calls: Nil's Equal against each kind of type, and each kind's Equal against Nil; the world only grows.
-/
import Derived.Test.YtnpmgandmmlilaaGreatFmtEq
import Derived.WideMake
namespace Go.Proofs.YtnpmgandmmlilaaGreatFmt
open Go.ChangeShapes Go.WideShapes Go.ChangeAt Go.RowKit Go.Extern
set_option linter.unusedVariables false

theorem z_array (ty : TypeId) (x : Value) (w : World) : Calls Tryz.prog 10 #[.iface ty x] w fun e w' => e = .returned (.iface 67 (.agg #[.iface ty x])) ∧ w = w' := by
  go_enter Tryz.func10, Tryz.ntmps10
  go_wp2
  go_ret
  exact ⟨rfl, rfl⟩

theorem set_last (w : World) (o o' : Obj) : ({ w.alloc o with heap := (w.alloc o).heap.setIfInBounds w.heap.size o' } : World) = w.alloc o' := by
  have e : (w.heap.push o).setIfInBounds w.heap.size o' = w.heap.push o' := by
    apply Array.ext_getElem?
    intro i
    simp only [Array.getElem?_setIfInBounds, Array.getElem?_push, Array.size_push]
    by_cases h : w.heap.size = i
    · subst h; simp
    · simp [h, Ne.symm h]
  show ({ w with heap := (w.heap.push o).setIfInBounds w.heap.size o' } : World) = { w with heap := w.heap.push o' }
  rw [e]

theorem put_new (k : ByteArray) (v : Value) (w : World) :
    (Instr.mapUpdate 41 (.map (some w.heap.size)) (.string k) v).run Tryz.prog (w.alloc (.map #[] 0)) = .ok () (w.alloc (.map #[{ key := .string k, val := v, born := 0 }] 1)) := by
  have h := run_mapUpdate_first (P := Tryz.prog) (w := w.alloc (.map #[] 0)) 41 9 38 w.heap.size 0 k v Tryz.underlying41 Tryz.underlying9 (MapKept.heap_alloc w _).1
  rw [set_last] at h
  exact h

theorem z_nAny (w : World) : Calls Tryz.prog 21 #[] w fun e w' => e = .returned (.bool true) ∧ Below w.heap.size w w' := by
  go_enter Tryz.func21, Tryz.ntmps21
  go_wp2_with (first | (go_at_call 42; (with_reducible refine (e_nil_any _).mono ?_); rintro e w1 ⟨rfl, hg⟩))
  go_ret
  exact ⟨rfl, grown_trans (by go_grown) hg⟩

theorem z_nNil (w : World) : Calls Tryz.prog 23 #[] w fun e w' => e = .returned (.bool true) ∧ Below w.heap.size w w' := by
  go_enter Tryz.func23, Tryz.ntmps23
  go_wp2_with (first | (go_at_call 42; (with_reducible refine (e_nil_nil _).mono ?_); rintro e w1 ⟨rfl, hg⟩))
  go_ret
  exact ⟨rfl, grown_trans (by go_grown) hg⟩

theorem z_nInt (x : Int) (w : World) : Calls Tryz.prog 25 #[.int .i64 x] w fun e w' => e = .returned (.bool false) ∧ Below w.heap.size w w' := by
  go_enter Tryz.func25, Tryz.ntmps25
  go_wp2_with (first | (go_at_call 18; (with_reducible refine (typeOf_any _ _ _).mono ?_); rintro e w1 ⟨rfl, rfl⟩) | (go_at_call 42; (with_reducible refine (e_nil_rt _ _).mono ?_); rintro e w1 ⟨rfl, hg⟩))
  go_ret
  exact ⟨rfl, grown_trans (by go_grown) hg⟩

theorem z_nStr (k : ByteArray) (w : World) : Calls Tryz.prog 27 #[.string k] w fun e w' => e = .returned (.bool false) ∧ Below w.heap.size w w' := by
  go_enter Tryz.func27, Tryz.ntmps27
  go_wp2_with (first | (go_at_call 18; (with_reducible refine (typeOf_any _ _ _).mono ?_); rintro e w1 ⟨rfl, rfl⟩) | (go_at_call 42; (with_reducible refine (e_nil_rt _ _).mono ?_); rintro e w1 ⟨rfl, hg⟩))
  go_ret
  exact ⟨rfl, grown_trans (by go_grown) hg⟩

theorem z_nArr (w : World) : Calls Tryz.prog 29 #[] w fun e w' => e = .returned (.bool false) ∧ Below w.heap.size w w' := by
  go_enter Tryz.func29, Tryz.ntmps29
  go_wp2_with (first | (go_at_call 10; (with_reducible refine (z_array _ _ _).mono ?_); rintro e w1 ⟨rfl, rfl⟩) | (go_at_call 42; (with_reducible refine (e_nil_arr _ _).mono ?_); rintro e w1 ⟨rfl, hg⟩))
  go_ret
  exact ⟨rfl, grown_trans (by go_grown) hg⟩

theorem z_nMap0 (w : World) : Calls Tryz.prog 31 #[] w fun e w' => e = .returned (.bool false) ∧ Below w.heap.size w w' := by
  have hmm := @run_makeMap Tryz.prog
  go_enter Tryz.func31, Tryz.ntmps31
  go_wp2_with (first | (go_at_call 42; (with_reducible refine (e_nil_map _ _).mono ?_); rintro e w1 ⟨rfl, hg⟩))
  go_ret
  exact ⟨rfl, grown_trans ((Below.refl _ _).alloc (Nat.le_refl _) _) hg⟩

theorem z_nMap1 (k : ByteArray) (w : World) : Calls Tryz.prog 33 #[.string k] w fun e w' => e = .returned (.bool false) ∧ Below w.heap.size w w' := by
  have hmm := @run_makeMap Tryz.prog
  have hpn := put_new k
  go_enter Tryz.func33, Tryz.ntmps33
  go_wp2_with (first | (go_at_call 42; (with_reducible refine (e_nil_map _ _).mono ?_); rintro e w1 ⟨rfl, hg⟩))
  go_ret
  exact ⟨rfl, grown_trans ((Below.refl _ _).alloc (Nat.le_refl _) _) hg⟩

theorem z_anyN (w : World) : Calls Tryz.prog 22 #[] w fun e w' => e = .returned (.bool true) ∧ Below w.heap.size w w' := by
  go_enter Tryz.func22, Tryz.ntmps22
  go_wp2_with (first | (go_at_call 43; (with_reducible refine (e_any _ _).mono ?_); rintro e w1 ⟨rfl, hg⟩))
  go_ret
  exact ⟨rfl, grown_trans (by go_grown) hg⟩

theorem z_selfN (w : World) : Calls Tryz.prog 24 #[] w fun e w' => e = .returned (.bool true) ∧ Below w.heap.size w w' := by
  go_enter Tryz.func24, Tryz.ntmps24
  go_wp2_with (first | (go_at_call 42; (with_reducible refine (e_nil_nil _).mono ?_); rintro e w1 ⟨rfl, hg⟩))
  go_ret
  exact ⟨rfl, grown_trans (by go_grown) hg⟩

theorem z_intN (x : Int) (w : World) : Calls Tryz.prog 26 #[.int .i64 x] w fun e w' => e = .returned (.bool false) ∧ Below w.heap.size w w' := by
  go_enter Tryz.func26, Tryz.ntmps26
  go_wp2_with (first | (go_at_call 18; (with_reducible refine (typeOf_any _ _ _).mono ?_); rintro e w1 ⟨rfl, rfl⟩) | (go_at_call 96; (with_reducible refine (e_rt_nil _ _).mono ?_); rintro e w1 ⟨rfl, hg⟩))
  go_ret
  exact ⟨rfl, grown_trans (by go_grown) hg⟩

theorem z_strN (k : ByteArray) (w : World) : Calls Tryz.prog 28 #[.string k] w fun e w' => e = .returned (.bool false) ∧ Below w.heap.size w w' := by
  go_enter Tryz.func28, Tryz.ntmps28
  go_wp2_with (first | (go_at_call 18; (with_reducible refine (typeOf_any _ _ _).mono ?_); rintro e w1 ⟨rfl, rfl⟩) | (go_at_call 96; (with_reducible refine (e_rt_nil _ _).mono ?_); rintro e w1 ⟨rfl, hg⟩))
  go_ret
  exact ⟨rfl, grown_trans (by go_grown) hg⟩

theorem z_arrN (w : World) : Calls Tryz.prog 30 #[] w fun e w' => e = .returned (.bool false) ∧ Below w.heap.size w w' := by
  go_enter Tryz.func30, Tryz.ntmps30
  go_wp2_with (first | (go_at_call 10; (with_reducible refine (z_array _ _ _).mono ?_); rintro e w1 ⟨rfl, rfl⟩) | (go_at_call 89; (with_reducible refine (e_arr_nil _ _).mono ?_); rintro e w1 ⟨rfl, hg⟩))
  go_ret
  exact ⟨rfl, grown_trans (by go_grown) hg⟩

theorem z_map1N (k : ByteArray) (w : World) : Calls Tryz.prog 34 #[.string k] w fun e w' => e = .returned (.bool false) ∧ Below w.heap.size w w' := by
  have hmm := @run_makeMap Tryz.prog
  have hpn := put_new k
  go_enter Tryz.func34, Tryz.ntmps34
  go_wp2_with (first | (go_at_call 16; (with_reducible refine (e_map_nil _ _).mono ?_); rintro e w1 ⟨rfl, hg⟩))
  go_ret
  exact ⟨rfl, grown_trans ((Below.refl _ _).alloc (Nat.le_refl _) _) hg⟩

theorem z_map0N (w : World) : Calls Tryz.prog 32 #[] w fun e w' => e = .returned (.bool false) ∧ Below w.heap.size w w' := by
  have hmm := @run_makeMap Tryz.prog
  go_enter Tryz.func32, Tryz.ntmps32
  go_wp2_with (first | (go_at_call 16; (with_reducible refine (e_map_nil _ _).mono ?_); rintro e w1 ⟨rfl, hg⟩))
  go_ret
  exact ⟨rfl, grown_trans ((Below.refl _ _).alloc (Nat.le_refl _) _) hg⟩

end Go.Proofs.YtnpmgandmmlilaaGreatFmt

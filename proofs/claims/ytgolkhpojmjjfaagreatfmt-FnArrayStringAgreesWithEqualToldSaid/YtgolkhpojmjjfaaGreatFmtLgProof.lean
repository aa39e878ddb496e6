/-
  What is proved here: FnArrayStringAgreesWithEqual of n003_34 returns true for every two ints and two bools, and leaves its arguments as they were. No condition. The row's own premises: the cut keeps package reflect's rows without bodies ("reflectrows", "leanrows"), and the model's own entries answer for it; fmt.Sprintf is stopped, its text told by the model's own text law; types.Any and types.Nil are listed, and tied to the program's text.
  The frame of the proof began as the kit's proof-skeleton.mjs; the walk is by hand.
-/
import Derived.Test.YtgolkhpojmjjfaaGreatFmtRows
import Derived.WalkKit
import Derived.ProofKit
import Derived.OpenShut
import Derived.Test.YtgolkhpojmjjfaaGreatFmtLg
import Derived.Test.YtgolkhpojmjjfaaGreatFmtLgProofFacts
import Derived.SevenTiedAt
import Derived.Test.YtgolkhpojmjjfaaGreatFmtTie
import Derived.Stop.JoinedAt
import Derived.Stop.JoinedTold
import Derived.ShutString
import Derived.Below
namespace Go.Proofs.YtgolkhpojmjjfaaGreatFmt.fnArrayStringAgreesWithEqual
open Go.ChangeShapes Go.WideShapes Go.ChangeAt Go.RowKit
open Go.ChangeMaps (open_string shut_string)
open Go.Extern.Stop Go.Stop Go.Extern
set_option linter.unusedVariables false      -- a walk need not use every 'w<i>' (that an integer argument fits its kind)

theorem own : ownKnob Tryz.prog.godebug = none := by kernel_rfl

/-! ### variables of a struct type without fields -/
theorem trod_bare {H : Type} {enc : TypeId × Value → H} {P : Program} {w : World} {base : Nat} {sp : Nat → Bool} {held : Bool} {f : Nat} {t : TypeId} {cs : List Value} {x : DataW H × List MemPlace}
    (ht : P.underlying t = some (.struct #[])) (h : DataW.trod enc P w base sp held f t cs = some x) (w' : World) (sp' : Nat → Bool) : DataW.trod enc P w' base sp' held f t cs = some x := by
  cases f with
  | zero => simp [DataW.trod] at h
  | succ n =>
    unfold DataW.trod at h ⊢
    simp only [ht] at h ⊢
    split at h
    · rename_i hl
      rw [if_pos hl]
      simpa using h
    · cases h
theorem var_kept {P : Program} {W W' : World} {n : String} {g : Nat} {cs : Array Value} (hg : P.globalNamed n = some g) (h : W.var? P n = some cs) (b : Below W.heap.size W W') : W'.var? P n = some cs := by
  simp only [World.var?, hg, Option.bind_some] at h ⊢
  have hlt : g < W.heap.size := by
    rcases Nat.lt_or_ge g W.heap.size with q | q
    · exact q
    · rw [Array.getElem?_eq_none q] at h; simp at h
  rw [b.block g hlt]
  exact h
theorem bare_of {P : Program} {n : String} {g : Nat} {t : TypeId} (h : ((P.globalNamed n).bind fun g => ((P.globals[g]?).map (·.type)).bind fun t => P.underlying t) = some (.struct #[])) (hg : P.globalNamed n = some g) (ht : (P.globals[g]?).map (·.type) = some t) : P.underlying t = some (.struct #[]) := by
  rw [hg] at h
  simp only [Option.bind_some] at h
  rw [ht] at h
  exact h

/-! ### the world of the witness: the program's start -/
noncomputable def laidWorld (os : Os) : World := World.holding Tryz.prog os ⟨#[], #[], []⟩
set_option maxRecDepth 100000 in
theorem laid_met (os : Os) (args : Array Value) : laidMet Tryz.prog Rows.fnArrayStringAgreesWithEqualRow.laid ((laidWorld os).forCall (fun _ _ => 0) ⟨#[], args, []⟩).memory :=
  laidMet_of_run (ps := []) 8 (by kernel_rfl) (by kernel_rfl) (by kernel_rfl)

/-! ### STEP 1: THE WALK: the Go text returns true. 'Grown w w'': the world has at most new blocks (Derived/RowKit3.lean). Part the cases AHEAD of 'go_enter' where a test parts the walk; take each callee by a contract of your own. -/
theorem walk (a0 : Int) (a1 : Int) (a2 : Bool) (a3 : Bool) (w0 : (Lit.int .i64 a0).wf = true) (w1 : (Lit.int .i64 a1).wf = true) (F : Interp) (w : World) (hF : F.told.answers w.tape) :
    Calls Tryz.prog 3 #[.int .i64 a0, .int .i64 a1, .bool a2, .bool a3] w fun e w' => e = .returned (.bool true) ∧ Below w.heap.size w w' := by
  by_cases h : a0 < 0 ∨ 256 < a0 ∨ a1 < 0 ∨ 256 < a1
  · exact lg_out a0 a1 a2 a3 w h
  · obtain ⟨n, rfl⟩ : ∃ n : Nat, a0 = (n : Int) := ⟨a0.toNat, by omega⟩
    obtain ⟨m, rfl⟩ : ∃ m : Nat, a1 = (m : Int) := ⟨a1.toNat, by omega⟩
    exact lg_main F n m a2 a3 w hF (by omega) (by omega)

/-! ### THE ROW's STEP: WRITTEN OUT: LEAVE IT -/
set_option maxRecDepth 100000 in
theorem lifted (os : Os) (started : os.Started) (H : Type) (enc : TypeId × Value → H) :
    ReturnsInTold none {} Tryz.checked os 3 .any Input.okWide ((OpenSpec.ofChange Rows.fnArrayStringAgreesWithEqualSpec).preRow enc Tryz.prog Tryz.f3 Rows.fnArrayStringAgreesWithEqualRow.domain false Rows.fnArrayStringAgreesWithEqualRow.laid) (fun F => ((OpenSpec.ofChange Rows.fnArrayStringAgreesWithEqualSpec).at F).post enc Tryz.prog Tryz.f3 false true false false) (aloneAtReturn Tryz.prog) nothingAlways := by
  refine returnsInTold_of_row (C := Tryz.checked) (s := OpenSpec.ofChange Rows.fnArrayStringAgreesWithEqualSpec) (by kernel_rfl) own started (by kernel_rfl) Tryz.func3
    (OpenSpec.witness_stopped_at (enc := enc) (C := Tryz.checked) false (laidWorld os) #[.int .i64 0, .int .i64 0, .bool false, .bool false] rfl (by kernel_rfl) (by kernel_rfl) (by kernel_rfl)
      (OpenSpec.preRow_of_B rfl 8 (by kernel_rfl) (by kernel_rfl) (laid_met os _))) ?_
  intro F W base args ds gs before _ hF hval0 hW hcnd _ hsz _ _
  have hval : ∀ (j : Nat) t v, Tryz.f3.params[j]? = some t → args[j]? = some v → Value.okWide Tryz.prog W .any base t v := hval0
  have hW' := hW
  obtain ⟨p, q, hA0, hV, rfl, hfz, hnd⟩ := hW
  have hA : DataW.TrodAll enc Tryz.prog W 0 (fun _ => true) true Tryz.f3.params.toList args.toList ds p := hA0
  rw [Tryz.params3] at hA hval
  obtain ⟨v0, vs0, d0, ds0, p0, q0, hargs, rfl, rfl, h0, r0⟩ := trodAll_cons hA
  obtain ⟨v1, vs1, d1, ds1, p1, q1, rfl, rfl, rfl, h1, r1⟩ := trodAll_cons r0
  obtain ⟨v2, vs2, d2, ds2, p2, q2, rfl, rfl, rfl, h2, r2⟩ := trodAll_cons r1
  obtain ⟨v3, vs3, d3, ds3, p3, q3, rfl, rfl, rfl, h3, r3⟩ := trodAll_cons r2
  obtain ⟨rfl, rfl, rfl⟩ := trodAll_nil r3
  obtain rfl : args = #[v0, v1, v2, v3] := by cases args; simp_all
  have hV2 : DataW.TrodVars enc Tryz.prog W (fun _ => true) ["github.com/expr-lang/expr/types.Any", "github.com/expr-lang/expr/types.Nil"] gs q := hV
  obtain ⟨gA, tA, csA, fA, dA, pA, gB, tB, csB, fB, dB, pB, rfl, ngA, tyA, vrA, tdA, ngB, tyB, vrB, tdB, rfl⟩ := trodVars_two hV2
  have uA : Tryz.prog.underlying tA = some (.struct #[]) := bare_of (by kernel_rfl) ngA tyA
  have uB : Tryz.prog.underlying tB = some (.struct #[]) := bare_of (by kernel_rfl) ngB tyB
  have hvars : ∀ W', Below W.heap.size W W' → ∀ sp : Nat → Bool, DataW.TrodVars enc Tryz.prog W' sp ["github.com/expr-lang/expr/types.Any", "github.com/expr-lang/expr/types.Nil"] [dA, dB] (MemPlace.row ⟨gA, 0, none⟩ csA.size ++ pA ++ (MemPlace.row ⟨gB, 0, none⟩ csB.size ++ pB)) := fun W' b sp =>
    ⟨gA, tA, csA, fA, pA, _, ngA, tyA, var_kept ngA vrA b, trod_bare uA tdA W' sp, trodVars_mk1 ngB tyB (var_kept ngB vrB b) (trod_bare uB tdB W' sp), rfl⟩
  obtain ⟨a0, rfl, rfl, rfl, w0⟩ := open_int Tryz.underlying3 (hval 0 3 v0 rfl rfl) h0
  obtain ⟨a1, rfl, rfl, rfl, w1⟩ := open_int Tryz.underlying3 (hval 1 3 v1 rfl rfl) h1
  obtain ⟨a2, rfl, rfl, rfl⟩ := open_bool Tryz.underlying4 (hval 2 4 v2 rfl rfl) h2
  obtain ⟨a3, rfl, rfl, rfl⟩ := open_bool Tryz.underlying4 (hval 3 4 v3 rfl rfl) h3
  clear hA0 hval0
  refine (walk a0 a1 a2 a3 w0 w1 F W hF).mono fun e W' ⟨he, hg⟩ => ?_
  subst he
  exact ⟨_, rfl, _, _, _, [], _, _, hW', (trodAll_cons_mk (shut_bool Tryz.underlying4 _) trodAll_mk0), (trodAll_cons_mk (shut_int Tryz.underlying3 w0) (trodAll_cons_mk (shut_int Tryz.underlying3 w1) (trodAll_cons_mk (shut_bool Tryz.underlying4 _) (trodAll_cons_mk (shut_bool Tryz.underlying4 _) trodAll_mk0)))), hvars _ hg _, hg.frame _, fun h => by cases h⟩

set_option maxRecDepth 100000 in
theorem over : Claim7.holds Tryz.pinned (.plain (OpenSpec.ofChange Rows.fnArrayStringAgreesWithEqualSpec)) Rows.fnArrayStringAgreesWithEqualCard :=
  Claim7.holds_of_told_tied_any_at .later 3 Tryz.f3 "fmt.Sprintf" [] [] Rows.fnArrayStringAgreesWithEqualCard.stood.harness Rows.fnArrayStringAgreesWithEqualCard.stood.looks Rows.fnArrayStringAgreesWithEqualCard.goes Rows.fnArrayStringAgreesWithEqualCard.laidKinds Rows.fnArrayStringAgreesWithEqualCard.laidTests
    hw hn hs hsp hl hmr hstart htold hout hnb htie hfn hf hr hinst hwrap hstops hsome hknobs hword hin hop hrc hvs hmp hif hmo hlo hwk hnar hvars hleave hlists hstill hshort hag hmain hlooks hfun hfmt hgoes fnArrayStringAgreesWithEqual_row_tie (OpenClaim.moreEntering_of (c := Rows.fnArrayStringAgreesWithEqualRow) (P := Tryz.pinned.checked.prog) (fn := Tryz.f3) e0 e1 e2 e3 e4 e5 e6 e7 e8 e9)
    ⟨_, WideRow.started_initial, quiet _⟩
    (fun os started _ H enc _ => lifted os started H enc) ⟨hveil1, hveil2⟩

/-- ████ THE STATEMENT ████ -/
theorem proved : Rows.FnArrayStringAgreesWithEqualToldSaid := over
#print axioms proved
end Go.Proofs.YtgolkhpojmjjfaaGreatFmt.fnArrayStringAgreesWithEqual

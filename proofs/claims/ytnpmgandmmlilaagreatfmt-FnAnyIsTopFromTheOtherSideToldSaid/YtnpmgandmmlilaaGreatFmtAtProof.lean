/-
  What is proved here: FnAnyIsTopFromTheOtherSide of n003_18 returns true for every int and every string, and leaves its arguments as they were. No condition. The row's own premises: the cut keeps package reflect's rows without bodies ("reflectrows", "leanrows"), and the model's own entries answer for it; fmt.Sprintf is stopped, its text told by the model's own text law; no run of this law comes to it.
  The frame of the proof began as the kit's proof-skeleton.mjs; the walk is by hand.
-/
import Derived.Test.YtnpmgandmmlilaaGreatFmtRows
import Derived.WalkKit
import Derived.ProofKit
import Derived.OpenShut
import Derived.Test.YtnpmgandmmlilaaGreatFmtAt
import Derived.Test.YtnpmgandmmlilaaGreatFmtAtProofFacts
import Derived.SevenToldRow
import Derived.Stop.JoinedAt
import Derived.Stop.JoinedTold
import Derived.ShutString
import Derived.Below
namespace Go.Proofs.YtnpmgandmmlilaaGreatFmt.fnAnyIsTopFromTheOtherSide
open Go.ChangeShapes Go.WideShapes Go.ChangeAt Go.RowKit
open Go.ChangeMaps (open_string shut_string)
open Go.Extern.Stop Go.Stop Go.Extern
set_option linter.unusedVariables false      -- a walk need not use every 'w<i>' (that an integer argument fits its kind)

theorem own : ownKnob Tryz.prog.godebug = none := by kernel_rfl

/-! ### STEP 1: THE WALK: the Go text returns true. 'Grown w w'': the world has at most new blocks (Derived/RowKit3.lean). Part the cases AHEAD of 'go_enter' where a test parts the walk; take each callee by a contract of your own. -/
theorem walk (a0 : Int) (a1 : ByteArray) (w0 : (Lit.int .i64 a0).wf = true) (w1 : a1.size ≤ maxLen) (w : World) :
    Calls Tryz.prog 7 #[.int .i64 a0, .string a1] w fun e w' => e = .returned (.bool true) ∧ Below w.heap.size w w' := by
  unfold maxLen at w1
  by_cases h : a1.size ≤ 1048576
  · exact at_small a0 a1 w h
  · exact at_big a0 a1 w w1 h

/-! ### THE ROW's STEP: WRITTEN OUT: LEAVE IT -/
set_option maxRecDepth 100000 in
theorem lifted (os : Os) (started : os.Started) (H : Type) (enc : TypeId × Value → H) :
    ReturnsInTold none {} Tryz.checked os 7 .any Input.okWide ((OpenSpec.ofChange Rows.fnAnyIsTopFromTheOtherSideSpec).preRow enc Tryz.prog Tryz.f7 Rows.fnAnyIsTopFromTheOtherSideRow.domain false []) (fun F => ((OpenSpec.ofChange Rows.fnAnyIsTopFromTheOtherSideSpec).at F).post enc Tryz.prog Tryz.f7 false true false false) (aloneAtReturn Tryz.prog) nothingAlways := by
  refine returnsInTold_of_row (C := Tryz.checked) (s := OpenSpec.ofChange Rows.fnAnyIsTopFromTheOtherSideSpec) (by kernel_rfl) own started (by kernel_rfl) Tryz.func7
    (OpenSpec.witness_stopped (enc := enc) (C := Tryz.checked) false ⟨#[], #[.int .i64 0, .string ByteArray.empty], []⟩ 8 (by kernel_rfl) (by kernel_rfl) (by kernel_rfl) (by kernel_rfl)) ?_
  intro F W base args ds gs before _ hF hval0 hW hcnd _ hsz _ _
  have hval : ∀ (j : Nat) t v, Tryz.f7.params[j]? = some t → args[j]? = some v → Value.okWide Tryz.prog W .any base t v := hval0
  have hW' := hW
  obtain ⟨p, q, hA0, hV, rfl, hfz, hnd⟩ := hW
  have hA : DataW.TrodAll enc Tryz.prog W 0 (fun _ => true) true Tryz.f7.params.toList args.toList ds p := hA0
  rw [Tryz.params7] at hA hval
  obtain ⟨v0, vs0, d0, ds0, p0, q0, hargs, rfl, rfl, h0, r0⟩ := trodAll_cons hA
  obtain ⟨v1, vs1, d1, ds1, p1, q1, rfl, rfl, rfl, h1, r1⟩ := trodAll_cons r0
  obtain ⟨rfl, rfl, rfl⟩ := trodAll_nil r1
  obtain rfl : args = #[v0, v1] := by cases args; simp_all
  obtain ⟨rfl, rfl⟩ := trodVars_none hV
  obtain ⟨a0, rfl, rfl, rfl, w0⟩ := open_int Tryz.underlying3 (hval 0 3 v0 rfl rfl) h0
  obtain ⟨a1, rfl, rfl, rfl, w1⟩ := open_string Tryz.underlying9 (hval 1 9 v1 rfl rfl) h1
  clear hA0 hval0
  refine (walk a0 a1 w0 w1 W).mono fun e W' ⟨he, hg⟩ => ?_
  subst he
  exact ⟨_, rfl, _, _, _, [], _, [], hW', (trodAll_cons_mk (shut_bool Tryz.underlying4 _) trodAll_mk0), (trodAll_cons_mk (shut_int Tryz.underlying3 w0) (trodAll_cons_mk (shut_string Tryz.underlying9 w1) trodAll_mk0)), rfl, hg.frame _, fun h => by cases h⟩

set_option maxRecDepth 100000 in
theorem over : Claim7.holds Tryz.pinned (.plain (OpenSpec.ofChange Rows.fnAnyIsTopFromTheOtherSideSpec)) Rows.fnAnyIsTopFromTheOtherSideCard :=
  Claim7.holds_of_told_any 7 Tryz.f7 "fmt.Sprintf" [] [] Rows.fnAnyIsTopFromTheOtherSideCard.stood.harness Rows.fnAnyIsTopFromTheOtherSideCard.stood.looks Rows.fnAnyIsTopFromTheOtherSideCard.goes
    hw hn hs hsp hl hmr hstart htold hout hnb htie hfn hf hr hinst hwrap hstops hsome hknobs hword hin hop hrc hvs hmp hif hmo hlo hwk hnar hvars hleave hlists hstill hshort hag hmain hlooks hfun hfmt hgoes (OpenClaim.moreEntering_of (c := Rows.fnAnyIsTopFromTheOtherSideRow) (P := Tryz.pinned.checked.prog) (fn := Tryz.f7) e0 e1 e2 e3 e4 e5 e6 e7 e8 e9)
    ⟨_, WideRow.started_initial, quiet _⟩
    (fun os started _ H enc _ => lifted os started H enc) ⟨hveil1, hveil2⟩

/-- ████ THE STATEMENT ████ -/
theorem proved : Rows.FnAnyIsTopFromTheOtherSideToldSaid := over
#print axioms proved
end Go.Proofs.YtnpmgandmmlilaaGreatFmt.fnAnyIsTopFromTheOtherSide

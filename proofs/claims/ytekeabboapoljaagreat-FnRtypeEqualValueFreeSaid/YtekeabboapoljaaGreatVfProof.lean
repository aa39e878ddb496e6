/-
  What is proved here: FnRtypeEqualValueFree of n003_101 returns true for every two ints, two strings and two float64s, and leaves its arguments as they were. No condition. The row's own premise: the cut keeps package reflect's rows without bodies ("reflectrows", "leanrows"), and the model's own entries answer for it.
  The frame of the proof was written by the kit's proof-skeleton.mjs; the walk is by hand.
-/
import Derived.Test.YtekeabboapoljaaGreatRows
import Derived.WalkKit
import Derived.ProofKit
import Derived.OpenShut
import Derived.Test.YtekeabboapoljaaGreatVf
import Derived.ShutString
namespace Go.Proofs.YtekeabboapoljaaGreat.fnRtypeEqualValueFree
open Go.ChangeShapes Go.WideShapes Go.ChangeAt Go.RowKit
open Go.ChangeMaps (open_string shut_string)
set_option linter.unusedVariables false      -- a walk need not use every 'w<i>' (that an integer argument fits its kind)

theorem own : ownKnob Tryz.prog.godebug = none := by kernel_rfl

/-! ### STEP 1: THE WALK: the Go text returns true. 'Grown w w'': the world has at most new blocks (Derived/RowKit3.lean). Part the cases AHEAD of 'go_enter' where a test parts the walk; take each callee by a contract of your own. -/
theorem walk (a0 : Int) (a1 : Int) (a2 : ByteArray) (a3 : ByteArray) (a4 : Nat) (a5 : Nat) (w0 : (Lit.int .i64 a0).wf = true) (w1 : (Lit.int .i64 a1).wf = true) (w2 : a2.size ≤ maxLen) (w3 : a3.size ≤ maxLen) (w4 : (Lit.float .f64 a4).wf = true) (w5 : (Lit.float .f64 a5).wf = true) (w : World) :
    Calls Tryz.prog 3 #[.int .i64 a0, .int .i64 a1, .string a2, .string a3, .float .f64 a4, .float .f64 a5] w fun e w' => e = .returned (.bool true) ∧ Grown w w' := by
  unfold maxLen at w2 w3
  by_cases h : a2.size + a3.size ≤ 1048576
  · exact law_small a0 a1 a2 a3 a4 a5 w h
  · exact law_big a0 a1 a2 a3 a4 a5 w w2 w3 h

/-! ### THE ROW's STEP: WRITTEN OUT: LEAVE IT -/
set_option maxRecDepth 100000 in
theorem lifted (os : Os) (started : os.Started) (H : Type) (enc : TypeId × Value → H) :
    ReturnsInHanded {} Tryz.checked os 3 .any (Rows.fnRtypeEqualValueFreeSpec.pre6 enc Tryz.prog Tryz.f3 Rows.fnRtypeEqualValueFreeRow.domain false) (Rows.fnRtypeEqualValueFreeSpec.post enc Tryz.prog Tryz.f3 false true false false) := by
  refine returnsInHanded_of_change (C := Tryz.checked) own started (by kernel_rfl) Tryz.func3
    (ChangeSpec.witness6 (enc := enc) (C := Tryz.checked) false ⟨#[], #[.int .i64 0, .int .i64 0, .string ByteArray.empty, .string ByteArray.empty, .float .f64 0, .float .f64 0], []⟩ 8 (by kernel_rfl) (by kernel_rfl) (by kernel_rfl) (by kernel_rfl)) ?_
  intro W base args ds gs before hval0 hW hcnd _
  have hval : ∀ (j : Nat) t v, Tryz.f3.params[j]? = some t → args[j]? = some v → Value.okWide Tryz.prog W .any base t v := hval0
  have hW' := hW
  obtain ⟨p, q, hA0, hV, rfl, hfz, hnd⟩ := hW
  have hA : DataW.TrodAll enc Tryz.prog W 0 (fun _ => true) true Tryz.f3.params.toList args.toList ds p := hA0
  rw [Tryz.params3] at hA hval
  obtain ⟨v0, vs0, d0, ds0, p0, q0, hargs, rfl, rfl, h0, r0⟩ := trodAll_cons hA
  obtain ⟨v1, vs1, d1, ds1, p1, q1, rfl, rfl, rfl, h1, r1⟩ := trodAll_cons r0
  obtain ⟨v2, vs2, d2, ds2, p2, q2, rfl, rfl, rfl, h2, r2⟩ := trodAll_cons r1
  obtain ⟨v3, vs3, d3, ds3, p3, q3, rfl, rfl, rfl, h3, r3⟩ := trodAll_cons r2
  obtain ⟨v4, vs4, d4, ds4, p4, q4, rfl, rfl, rfl, h4, r4⟩ := trodAll_cons r3
  obtain ⟨v5, vs5, d5, ds5, p5, q5, rfl, rfl, rfl, h5, r5⟩ := trodAll_cons r4
  obtain ⟨rfl, rfl, rfl⟩ := trodAll_nil r5
  obtain rfl : args = #[v0, v1, v2, v3, v4, v5] := by cases args; simp_all
  obtain ⟨rfl, rfl⟩ := trodVars_none hV
  obtain ⟨a0, rfl, rfl, rfl, w0⟩ := open_int Tryz.underlying3 (hval 0 3 v0 rfl rfl) h0
  obtain ⟨a1, rfl, rfl, rfl, w1⟩ := open_int Tryz.underlying3 (hval 1 3 v1 rfl rfl) h1
  obtain ⟨a2, rfl, rfl, rfl, w2⟩ := open_string Tryz.underlying9 (hval 2 9 v2 rfl rfl) h2
  obtain ⟨a3, rfl, rfl, rfl, w3⟩ := open_string Tryz.underlying9 (hval 3 9 v3 rfl rfl) h3
  obtain ⟨a4, rfl, rfl, rfl, w4⟩ := open_float Tryz.underlying27 (hval 4 27 v4 rfl rfl) h4
  obtain ⟨a5, rfl, rfl, rfl, w5⟩ := open_float Tryz.underlying27 (hval 5 27 v5 rfl rfl) h5
  clear hA0 hval0
  simp only [List.append_nil] at hW'
  refine (walk a0 a1 a2 a3 a4 a5 w0 w1 w2 w3 w4 w5 W).mono fun e W' ⟨he, hg⟩ => ?_
  subst he
  exact ⟨_, rfl, post_of_same (pa := []) (pv := []) hW' (fun _ _ _ => (trodAll_cons_mk (shut_bool Tryz.underlying4 _) trodAll_mk0)) (fun sp _ => (trodAll_cons_mk (shut_int Tryz.underlying3 w0) (trodAll_cons_mk (shut_int Tryz.underlying3 w1) (trodAll_cons_mk (shut_string Tryz.underlying9 w2) (trodAll_cons_mk (shut_string Tryz.underlying9 w3) (trodAll_cons_mk (shut_float Tryz.underlying27 w4) (trodAll_cons_mk (shut_float Tryz.underlying27 w5) trodAll_mk0))))))) (fun _ _ => rfl) rfl
    (hg.frame _) hg.2.1 (ok_one (by kernel_rfl) rfl (okWide_bool_mk Tryz.underlying4 _))⟩

theorem and2 {a b : Bool} (h : a = true) (g : b = true) : (a && b) = true := by rw [h, g]; rfl
theorem c0 : (fun (P : Program) (f : FuncId) (fn : Func) (s : ChangeSpec) (c : OpenClaim) => (c.wf (OpenSpec.ofChange s) : Bool)) Tryz.prog 3 Tryz.f3 Rows.fnRtypeEqualValueFreeSpec Rows.fnRtypeEqualValueFreeRow = true := by kernel_rfl
theorem c1 : (fun (P : Program) (f : FuncId) (fn : Func) (s : ChangeSpec) (c : OpenClaim) => (laidOutB P : Bool)) Tryz.prog 3 Tryz.f3 Rows.fnRtypeEqualValueFreeSpec Rows.fnRtypeEqualValueFreeRow = true := by kernel_rfl
theorem c2 : (fun (P : Program) (f : FuncId) (fn : Func) (s : ChangeSpec) (c : OpenClaim) => (mapsRowed P : Bool)) Tryz.prog 3 Tryz.f3 Rows.fnRtypeEqualValueFreeSpec Rows.fnRtypeEqualValueFreeRow = true := by kernel_rfl
theorem c3 : (fun (P : Program) (f : FuncId) (fn : Func) (s : ChangeSpec) (c : OpenClaim) => (fn.params.all (P.readableRec ·) : Bool)) Tryz.prog 3 Tryz.f3 Rows.fnRtypeEqualValueFreeSpec Rows.fnRtypeEqualValueFreeRow = true := by kernel_rfl
theorem c4 : (fun (P : Program) (f : FuncId) (fn : Func) (s : ChangeSpec) (c : OpenClaim) => (namedTie P c.named s.vars : Bool)) Tryz.prog 3 Tryz.f3 Rows.fnRtypeEqualValueFreeSpec Rows.fnRtypeEqualValueFreeRow = true := by kernel_rfl
theorem c5 : (fun (P : Program) (f : FuncId) (fn : Func) (s : ChangeSpec) (c : OpenClaim) => ((c.stops == []) : Bool)) Tryz.prog 3 Tryz.f3 Rows.fnRtypeEqualValueFreeSpec Rows.fnRtypeEqualValueFreeRow = true := by kernel_rfl
theorem c6 : (fun (P : Program) (f : FuncId) (fn : Func) (s : ChangeSpec) (c : OpenClaim) => ((P.stops == []) : Bool)) Tryz.prog 3 Tryz.f3 Rows.fnRtypeEqualValueFreeSpec Rows.fnRtypeEqualValueFreeRow = true := by kernel_rfl
theorem c7 : (fun (P : Program) (f : FuncId) (fn : Func) (s : ChangeSpec) (c : OpenClaim) => ((c.knobs == []) : Bool)) Tryz.prog 3 Tryz.f3 Rows.fnRtypeEqualValueFreeSpec Rows.fnRtypeEqualValueFreeRow = true := by kernel_rfl
theorem c8 : (fun (P : Program) (f : FuncId) (fn : Func) (s : ChangeSpec) (c : OpenClaim) => ((P.stopKnobs == []) : Bool)) Tryz.prog 3 Tryz.f3 Rows.fnRtypeEqualValueFreeSpec Rows.fnRtypeEqualValueFreeRow = true := by kernel_rfl
theorem c9 : (fun (P : Program) (f : FuncId) (fn : Func) (s : ChangeSpec) (c : OpenClaim) => ((c.inPlace == P.inPlace f) : Bool)) Tryz.prog 3 Tryz.f3 Rows.fnRtypeEqualValueFreeSpec Rows.fnRtypeEqualValueFreeRow = true := by kernel_rfl
theorem c10 : (fun (P : Program) (f : FuncId) (fn : Func) (s : ChangeSpec) (c : OpenClaim) => ((c.unfollowed == P.unfollowed f) : Bool)) Tryz.prog 3 Tryz.f3 Rows.fnRtypeEqualValueFreeSpec Rows.fnRtypeEqualValueFreeRow = true := by kernel_rfl
theorem c11 : (fun (P : Program) (f : FuncId) (fn : Func) (s : ChangeSpec) (c : OpenClaim) => ((c.recurses == P.recurses f) : Bool)) Tryz.prog 3 Tryz.f3 Rows.fnRtypeEqualValueFreeSpec Rows.fnRtypeEqualValueFreeRow = true := by kernel_rfl
theorem c12 : (fun (P : Program) (f : FuncId) (fn : Func) (s : ChangeSpec) (c : OpenClaim) => ((c.named == P.varsNamed f) : Bool)) Tryz.prog 3 Tryz.f3 Rows.fnRtypeEqualValueFreeSpec Rows.fnRtypeEqualValueFreeRow = true := by kernel_rfl
theorem c13 : (fun (P : Program) (f : FuncId) (fn : Func) (s : ChangeSpec) (c : OpenClaim) => ((c.maps == (fn.params.toList ++ s.plain.varTypes P).any (P.mapsRec ·)) : Bool)) Tryz.prog 3 Tryz.f3 Rows.fnRtypeEqualValueFreeSpec Rows.fnRtypeEqualValueFreeRow = true := by kernel_rfl
theorem c14 : (fun (P : Program) (f : FuncId) (fn : Func) (s : ChangeSpec) (c : OpenClaim) => ((c.ifaces == (fn.params.toList ++ s.plain.varTypes P).any (P.ifacesRec ·)) : Bool)) Tryz.prog 3 Tryz.f3 Rows.fnRtypeEqualValueFreeSpec Rows.fnRtypeEqualValueFreeRow = true := by kernel_rfl
theorem c15 : (fun (P : Program) (f : FuncId) (fn : Func) (s : ChangeSpec) (c : OpenClaim) => ((c.mapsOut == P.mapsAmong fn.resultTypes.toList) : Bool)) Tryz.prog 3 Tryz.f3 Rows.fnRtypeEqualValueFreeSpec Rows.fnRtypeEqualValueFreeRow = true := by kernel_rfl
theorem c16 : (fun (P : Program) (f : FuncId) (fn : Func) (s : ChangeSpec) (c : OpenClaim) => ((c.loops == (fn.params.toList ++ s.plain.varTypes P).any (P.loopsFrom ·)) : Bool)) Tryz.prog 3 Tryz.f3 Rows.fnRtypeEqualValueFreeSpec Rows.fnRtypeEqualValueFreeRow = true := by kernel_rfl
theorem c17 : (fun (P : Program) (f : FuncId) (fn : Func) (s : ChangeSpec) (c : OpenClaim) => ((c.wideKeys == (fn.params.toList ++ s.plain.varTypes P ++ fn.resultTypes.toList).any (P.wideKeysFrom ·)) : Bool)) Tryz.prog 3 Tryz.f3 Rows.fnRtypeEqualValueFreeSpec Rows.fnRtypeEqualValueFreeRow = true := by kernel_rfl
theorem c18 : (fun (P : Program) (f : FuncId) (fn : Func) (s : ChangeSpec) (c : OpenClaim) => (s.vars.all (P.varReadable ·) : Bool)) Tryz.prog 3 Tryz.f3 Rows.fnRtypeEqualValueFreeSpec Rows.fnRtypeEqualValueFreeRow = true := by kernel_rfl
theorem c19 : (fun (P : Program) (f : FuncId) (fn : Func) (s : ChangeSpec) (c : OpenClaim) => (fn.resultTypes.all (fun t => P.readableRec t && decide (t < P.types.size)) : Bool)) Tryz.prog 3 Tryz.f3 Rows.fnRtypeEqualValueFreeSpec Rows.fnRtypeEqualValueFreeRow = true := by kernel_rfl
theorem c20 : (fun (P : Program) (f : FuncId) (fn : Func) (s : ChangeSpec) (c : OpenClaim) => ((c.ifacesOut == fn.resultTypes.toList.any (P.ifacesRec ·)) : Bool)) Tryz.prog 3 Tryz.f3 Rows.fnRtypeEqualValueFreeSpec Rows.fnRtypeEqualValueFreeRow = true := by kernel_rfl
theorem c21 : (fun (P : Program) (f : FuncId) (fn : Func) (s : ChangeSpec) (c : OpenClaim) => ((c.loopsOut == fn.resultTypes.toList.any (P.loopsFrom ·)) : Bool)) Tryz.prog 3 Tryz.f3 Rows.fnRtypeEqualValueFreeSpec Rows.fnRtypeEqualValueFreeRow = true := by kernel_rfl
theorem c22 : (fun (P : Program) (f : FuncId) (fn : Func) (s : ChangeSpec) (c : OpenClaim) => ((c.plainKeys == P.plainKeys) : Bool)) Tryz.prog 3 Tryz.f3 Rows.fnRtypeEqualValueFreeSpec Rows.fnRtypeEqualValueFreeRow = true := by kernel_rfl
theorem c23 : (fun (P : Program) (f : FuncId) (fn : Func) (s : ChangeSpec) (c : OpenClaim) => (c.shortTexts.isNone : Bool)) Tryz.prog 3 Tryz.f3 Rows.fnRtypeEqualValueFreeSpec Rows.fnRtypeEqualValueFreeRow = true := by kernel_rfl
theorem c24 : (fun (P : Program) (f : FuncId) (fn : Func) (s : ChangeSpec) (c : OpenClaim) => (P.stopsHeard : Bool)) Tryz.prog 3 Tryz.f3 Rows.fnRtypeEqualValueFreeSpec Rows.fnRtypeEqualValueFreeRow = true := by kernel_rfl
theorem c25 : (fun (P : Program) (f : FuncId) (fn : Func) (s : ChangeSpec) (c : OpenClaim) => (P.mayEnter : Bool)) Tryz.prog 3 Tryz.f3 Rows.fnRtypeEqualValueFreeSpec Rows.fnRtypeEqualValueFreeRow = true := by kernel_rfl
theorem c26 : (fun (P : Program) (f : FuncId) (fn : Func) (s : ChangeSpec) (c : OpenClaim) => ((c.lifted == P.liftsFinal) : Bool)) Tryz.prog 3 Tryz.f3 Rows.fnRtypeEqualValueFreeSpec Rows.fnRtypeEqualValueFreeRow = true := by kernel_rfl
theorem c27 : (fun (P : Program) (f : FuncId) (fn : Func) (s : ChangeSpec) (c : OpenClaim) => ((P.make == some c.make) : Bool)) Tryz.prog 3 Tryz.f3 Rows.fnRtypeEqualValueFreeSpec Rows.fnRtypeEqualValueFreeRow = true := by kernel_rfl
theorem c28 : (fun (P : Program) (f : FuncId) (fn : Func) (s : ChangeSpec) (c : OpenClaim) => ((c.kinds == (if c.domain.isEmpty then [] else fn.params.toList.map fun t => match P.underlying t with | some (.int k) => some k | _ => none)) : Bool)) Tryz.prog 3 Tryz.f3 Rows.fnRtypeEqualValueFreeSpec Rows.fnRtypeEqualValueFreeRow = true := by kernel_rfl
theorem c29 : (fun (P : Program) (f : FuncId) (fn : Func) (s : ChangeSpec) (c : OpenClaim) => ((c.pinned == c.pinnedBy) : Bool)) Tryz.prog 3 Tryz.f3 Rows.fnRtypeEqualValueFreeSpec Rows.fnRtypeEqualValueFreeRow = true := by kernel_rfl
theorem c30 : (fun (P : Program) (f : FuncId) (fn : Func) (s : ChangeSpec) (c : OpenClaim) => ((c.veiled == (fn.params.toList ++ s.plain.varTypes P ++ fn.resultTypes.toList).any (P.veiledRec ·)) : Bool)) Tryz.prog 3 Tryz.f3 Rows.fnRtypeEqualValueFreeSpec Rows.fnRtypeEqualValueFreeRow = true := by kernel_rfl
theorem c31 : (fun (P : Program) (f : FuncId) (fn : Func) (s : ChangeSpec) (c : OpenClaim) => (c.veiledFits P fn.params.toList (fn.params.toList ++ s.plain.varTypes P ++ fn.resultTypes.toList) : Bool)) Tryz.prog 3 Tryz.f3 Rows.fnRtypeEqualValueFreeSpec Rows.fnRtypeEqualValueFreeRow = true := by kernel_rfl
set_option maxRecDepth 100000 in
theorem closed : joinedFacts Tryz.prog 3 Tryz.f3 Rows.fnRtypeEqualValueFreeSpec Rows.fnRtypeEqualValueFreeRow = true := by
  unfold joinedFacts
  exact (and2 (and2 (and2 (and2 (and2 (and2 (and2 (and2 (and2 (and2 (and2 (and2 (and2 (and2 (and2 (and2 (and2 (and2 (and2 (and2 (and2 (and2 (and2 (and2 (and2 (and2 (and2 (and2 (and2 (and2 (and2 c0 c1) c2) c3) c4) c5) c6) c7) c8) c9) c10) c11) c12) c13) c14) c15) c16) c17) c18) c19) c20) c21) c22) c23) c24) c25) c26) c27) c28) c29) c30) c31)
theorem named : Tryz.pinned.checked.prog.funcNamed Rows.fnRtypeEqualValueFreeRow.func = some 3 := by kernel_rfl
theorem inst : Tryz.f3.isInstance Tryz.pinned.checked.prog Rows.fnRtypeEqualValueFreeRow.origin Rows.fnRtypeEqualValueFreeRow.targs := of_decide_eq_true (by kernel_rfl)
theorem wrap : Tryz.f3.isWrapper Tryz.pinned.checked.prog Rows.fnRtypeEqualValueFreeRow.wrapper Rows.fnRtypeEqualValueFreeRow.mainSum := by unfold Func.isWrapper; first | (rw [if_pos (by decide +kernel)]; kernel_rfl) | (rw [if_neg (by decide +kernel)]; exact ⟨rfl, rfl⟩)

theorem over : Rows.fnRtypeEqualValueFreeRow.holds Tryz.pinned (OpenSpec.ofChange Rows.fnRtypeEqualValueFreeSpec) :=
  OpenClaim.holds_of_wide 3 Tryz.f3 rfl rfl rfl rfl rfl rfl rfl ⟨rfl, rfl, rfl, rfl, rfl⟩ rfl rfl rfl rfl rfl named Tryz.func3 closed inst wrap
    (fun os started H enc _ => lifted os started H enc)

/-- ████ THE STATEMENT ████ -/
theorem proved : Rows.FnRtypeEqualValueFreeSaid :=
  over
#print axioms proved
end Go.Proofs.YtekeabboapoljaaGreat.fnRtypeEqualValueFree

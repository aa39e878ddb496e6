/-
  What is proved here: FnInRangeRewriteKeepsMembership of n003_104 returns true for every three ints and int8, and leaves its arguments as they were. No condition. The row's own premise: the cut keeps package reflect's rows without bodies ("reflectrows", "leanrows"), and the model's own entries answer for it.
  The frame of the proof was written by the kit's proof-skeleton.mjs; the walk is by hand.
-/
import Derived.Test.YthhijnemlhjpgaaGreatRows
import Derived.WalkKit
import Derived.ProofKit
import Derived.OpenShut
import Derived.Test.YthhijnemlhjpgaaGreatIl
import Derived.ShutString
namespace Go.Proofs.YthhijnemlhjpgaaGreat.fnInRangeRewriteKeepsMembership
open Go.ChangeShapes Go.WideShapes Go.ChangeAt Go.RowKit
open Go.ChangeMaps (open_string shut_string)
set_option linter.unusedVariables false      -- a walk need not use every 'w<i>' (that an integer argument fits its kind)

theorem own : ownKnob Tryz.prog.godebug = none := by kernel_rfl

/-! ### STEP 1: THE WALK: the Go text returns true. 'Grown w w'': the world has at most new blocks (Derived/RowKit3.lean). Part the cases AHEAD of 'go_enter' where a test parts the walk; take each callee by a contract of your own. -/
theorem walk (a0 : Int) (a1 : Int) (a2 : Int) (a3 : Int) (w0 : (Lit.int .i64 a0).wf = true) (w1 : (Lit.int .i64 a1).wf = true) (w2 : (Lit.int .i64 a2).wf = true) (w3 : (Lit.int .i8 a3).wf = true) (w : World) :
    Calls Tryz.prog 5 #[.int .i64 a0, .int .i64 a1, .int .i64 a2, .int .i8 a3] w fun e w' => e = .returned (.bool true) ∧ Grown w w' := by
  have hb := bounds8 a3 w3
  rcases zm_three a3 with h | h | h
  · exact law_zero a0 a1 a2 a3 w h hb.1 hb.2
  · exact law_one a0 a1 a2 a3 w h hb.1 hb.2
  · exact law_two a0 a1 a2 a3 w h hb.1 hb.2

/-! ### THE ROW's STEP: WRITTEN OUT: LEAVE IT -/
set_option maxRecDepth 100000 in
theorem lifted (os : Os) (started : os.Started) (H : Type) (enc : TypeId × Value → H) :
    ReturnsInHanded {} Tryz.checked os 5 .any (Rows.fnInRangeRewriteKeepsMembershipSpec.pre6 enc Tryz.prog Tryz.f5 Rows.fnInRangeRewriteKeepsMembershipRow.domain false) (Rows.fnInRangeRewriteKeepsMembershipSpec.post enc Tryz.prog Tryz.f5 false true false false) := by
  refine returnsInHanded_of_change (C := Tryz.checked) own started (by kernel_rfl) Tryz.func5
    (ChangeSpec.witness6 (enc := enc) (C := Tryz.checked) false ⟨#[], #[.int .i64 0, .int .i64 0, .int .i64 0, .int .i8 0], []⟩ 8 (by kernel_rfl) (by kernel_rfl) (by kernel_rfl) (by kernel_rfl)) ?_
  intro W base args ds gs before hval0 hW hcnd _
  have hval : ∀ (j : Nat) t v, Tryz.f5.params[j]? = some t → args[j]? = some v → Value.okWide Tryz.prog W .any base t v := hval0
  have hW' := hW
  obtain ⟨p, q, hA0, hV, rfl, hfz, hnd⟩ := hW
  have hA : DataW.TrodAll enc Tryz.prog W 0 (fun _ => true) true Tryz.f5.params.toList args.toList ds p := hA0
  rw [Tryz.params5] at hA hval
  obtain ⟨v0, vs0, d0, ds0, p0, q0, hargs, rfl, rfl, h0, r0⟩ := trodAll_cons hA
  obtain ⟨v1, vs1, d1, ds1, p1, q1, rfl, rfl, rfl, h1, r1⟩ := trodAll_cons r0
  obtain ⟨v2, vs2, d2, ds2, p2, q2, rfl, rfl, rfl, h2, r2⟩ := trodAll_cons r1
  obtain ⟨v3, vs3, d3, ds3, p3, q3, rfl, rfl, rfl, h3, r3⟩ := trodAll_cons r2
  obtain ⟨rfl, rfl, rfl⟩ := trodAll_nil r3
  obtain rfl : args = #[v0, v1, v2, v3] := by cases args; simp_all
  obtain ⟨rfl, rfl⟩ := trodVars_none hV
  obtain ⟨a0, rfl, rfl, rfl, w0⟩ := open_int Tryz.underlying3 (hval 0 3 v0 rfl rfl) h0
  obtain ⟨a1, rfl, rfl, rfl, w1⟩ := open_int Tryz.underlying3 (hval 1 3 v1 rfl rfl) h1
  obtain ⟨a2, rfl, rfl, rfl, w2⟩ := open_int Tryz.underlying3 (hval 2 3 v2 rfl rfl) h2
  obtain ⟨a3, rfl, rfl, rfl, w3⟩ := open_int Tryz.underlying29 (hval 3 29 v3 rfl rfl) h3
  clear hA0 hval0
  simp only [List.append_nil] at hW'
  refine (walk a0 a1 a2 a3 w0 w1 w2 w3 W).mono fun e W' ⟨he, hg⟩ => ?_
  subst he
  exact ⟨_, rfl, post_of_same (pa := []) (pv := []) hW' (fun _ _ _ => (trodAll_cons_mk (shut_bool Tryz.underlying4 _) trodAll_mk0)) (fun sp _ => (trodAll_cons_mk (shut_int Tryz.underlying3 w0) (trodAll_cons_mk (shut_int Tryz.underlying3 w1) (trodAll_cons_mk (shut_int Tryz.underlying3 w2) (trodAll_cons_mk (shut_int Tryz.underlying29 w3) trodAll_mk0))))) (fun _ _ => rfl) rfl
    (hg.frame _) hg.2.1 (ok_one (by kernel_rfl) rfl (okWide_bool_mk Tryz.underlying4 _))⟩

theorem and2 {a b : Bool} (h : a = true) (g : b = true) : (a && b) = true := by rw [h, g]; rfl
theorem c0 : (fun (P : Program) (f : FuncId) (fn : Func) (s : ChangeSpec) (c : OpenClaim) => (c.wf (OpenSpec.ofChange s) : Bool)) Tryz.prog 5 Tryz.f5 Rows.fnInRangeRewriteKeepsMembershipSpec Rows.fnInRangeRewriteKeepsMembershipRow = true := by kernel_rfl
theorem c1 : (fun (P : Program) (f : FuncId) (fn : Func) (s : ChangeSpec) (c : OpenClaim) => (laidOutB P : Bool)) Tryz.prog 5 Tryz.f5 Rows.fnInRangeRewriteKeepsMembershipSpec Rows.fnInRangeRewriteKeepsMembershipRow = true := by kernel_rfl
theorem c2 : (fun (P : Program) (f : FuncId) (fn : Func) (s : ChangeSpec) (c : OpenClaim) => (mapsRowed P : Bool)) Tryz.prog 5 Tryz.f5 Rows.fnInRangeRewriteKeepsMembershipSpec Rows.fnInRangeRewriteKeepsMembershipRow = true := by kernel_rfl
theorem c3 : (fun (P : Program) (f : FuncId) (fn : Func) (s : ChangeSpec) (c : OpenClaim) => (fn.params.all (P.readableRec ·) : Bool)) Tryz.prog 5 Tryz.f5 Rows.fnInRangeRewriteKeepsMembershipSpec Rows.fnInRangeRewriteKeepsMembershipRow = true := by kernel_rfl
theorem c4 : (fun (P : Program) (f : FuncId) (fn : Func) (s : ChangeSpec) (c : OpenClaim) => (namedTie P c.named s.vars : Bool)) Tryz.prog 5 Tryz.f5 Rows.fnInRangeRewriteKeepsMembershipSpec Rows.fnInRangeRewriteKeepsMembershipRow = true := by kernel_rfl
theorem c5 : (fun (P : Program) (f : FuncId) (fn : Func) (s : ChangeSpec) (c : OpenClaim) => ((c.stops == []) : Bool)) Tryz.prog 5 Tryz.f5 Rows.fnInRangeRewriteKeepsMembershipSpec Rows.fnInRangeRewriteKeepsMembershipRow = true := by kernel_rfl
theorem c6 : (fun (P : Program) (f : FuncId) (fn : Func) (s : ChangeSpec) (c : OpenClaim) => ((P.stops == []) : Bool)) Tryz.prog 5 Tryz.f5 Rows.fnInRangeRewriteKeepsMembershipSpec Rows.fnInRangeRewriteKeepsMembershipRow = true := by kernel_rfl
theorem c7 : (fun (P : Program) (f : FuncId) (fn : Func) (s : ChangeSpec) (c : OpenClaim) => ((c.knobs == []) : Bool)) Tryz.prog 5 Tryz.f5 Rows.fnInRangeRewriteKeepsMembershipSpec Rows.fnInRangeRewriteKeepsMembershipRow = true := by kernel_rfl
theorem c8 : (fun (P : Program) (f : FuncId) (fn : Func) (s : ChangeSpec) (c : OpenClaim) => ((P.stopKnobs == []) : Bool)) Tryz.prog 5 Tryz.f5 Rows.fnInRangeRewriteKeepsMembershipSpec Rows.fnInRangeRewriteKeepsMembershipRow = true := by kernel_rfl
theorem c9 : (fun (P : Program) (f : FuncId) (fn : Func) (s : ChangeSpec) (c : OpenClaim) => ((c.inPlace == P.inPlace f) : Bool)) Tryz.prog 5 Tryz.f5 Rows.fnInRangeRewriteKeepsMembershipSpec Rows.fnInRangeRewriteKeepsMembershipRow = true := by kernel_rfl
theorem c10 : (fun (P : Program) (f : FuncId) (fn : Func) (s : ChangeSpec) (c : OpenClaim) => ((c.unfollowed == P.unfollowed f) : Bool)) Tryz.prog 5 Tryz.f5 Rows.fnInRangeRewriteKeepsMembershipSpec Rows.fnInRangeRewriteKeepsMembershipRow = true := by kernel_rfl
theorem c11 : (fun (P : Program) (f : FuncId) (fn : Func) (s : ChangeSpec) (c : OpenClaim) => ((c.recurses == P.recurses f) : Bool)) Tryz.prog 5 Tryz.f5 Rows.fnInRangeRewriteKeepsMembershipSpec Rows.fnInRangeRewriteKeepsMembershipRow = true := by kernel_rfl
theorem c12 : (fun (P : Program) (f : FuncId) (fn : Func) (s : ChangeSpec) (c : OpenClaim) => ((c.named == P.varsNamed f) : Bool)) Tryz.prog 5 Tryz.f5 Rows.fnInRangeRewriteKeepsMembershipSpec Rows.fnInRangeRewriteKeepsMembershipRow = true := by kernel_rfl
theorem c13 : (fun (P : Program) (f : FuncId) (fn : Func) (s : ChangeSpec) (c : OpenClaim) => ((c.maps == (fn.params.toList ++ s.plain.varTypes P).any (P.mapsRec ·)) : Bool)) Tryz.prog 5 Tryz.f5 Rows.fnInRangeRewriteKeepsMembershipSpec Rows.fnInRangeRewriteKeepsMembershipRow = true := by kernel_rfl
theorem c14 : (fun (P : Program) (f : FuncId) (fn : Func) (s : ChangeSpec) (c : OpenClaim) => ((c.ifaces == (fn.params.toList ++ s.plain.varTypes P).any (P.ifacesRec ·)) : Bool)) Tryz.prog 5 Tryz.f5 Rows.fnInRangeRewriteKeepsMembershipSpec Rows.fnInRangeRewriteKeepsMembershipRow = true := by kernel_rfl
theorem c15 : (fun (P : Program) (f : FuncId) (fn : Func) (s : ChangeSpec) (c : OpenClaim) => ((c.mapsOut == P.mapsAmong fn.resultTypes.toList) : Bool)) Tryz.prog 5 Tryz.f5 Rows.fnInRangeRewriteKeepsMembershipSpec Rows.fnInRangeRewriteKeepsMembershipRow = true := by kernel_rfl
theorem c16 : (fun (P : Program) (f : FuncId) (fn : Func) (s : ChangeSpec) (c : OpenClaim) => ((c.loops == (fn.params.toList ++ s.plain.varTypes P).any (P.loopsFrom ·)) : Bool)) Tryz.prog 5 Tryz.f5 Rows.fnInRangeRewriteKeepsMembershipSpec Rows.fnInRangeRewriteKeepsMembershipRow = true := by kernel_rfl
theorem c17 : (fun (P : Program) (f : FuncId) (fn : Func) (s : ChangeSpec) (c : OpenClaim) => ((c.wideKeys == (fn.params.toList ++ s.plain.varTypes P ++ fn.resultTypes.toList).any (P.wideKeysFrom ·)) : Bool)) Tryz.prog 5 Tryz.f5 Rows.fnInRangeRewriteKeepsMembershipSpec Rows.fnInRangeRewriteKeepsMembershipRow = true := by kernel_rfl
theorem c18 : (fun (P : Program) (f : FuncId) (fn : Func) (s : ChangeSpec) (c : OpenClaim) => (s.vars.all (P.varReadable ·) : Bool)) Tryz.prog 5 Tryz.f5 Rows.fnInRangeRewriteKeepsMembershipSpec Rows.fnInRangeRewriteKeepsMembershipRow = true := by kernel_rfl
theorem c19 : (fun (P : Program) (f : FuncId) (fn : Func) (s : ChangeSpec) (c : OpenClaim) => (fn.resultTypes.all (fun t => P.readableRec t && decide (t < P.types.size)) : Bool)) Tryz.prog 5 Tryz.f5 Rows.fnInRangeRewriteKeepsMembershipSpec Rows.fnInRangeRewriteKeepsMembershipRow = true := by kernel_rfl
theorem c20 : (fun (P : Program) (f : FuncId) (fn : Func) (s : ChangeSpec) (c : OpenClaim) => ((c.ifacesOut == fn.resultTypes.toList.any (P.ifacesRec ·)) : Bool)) Tryz.prog 5 Tryz.f5 Rows.fnInRangeRewriteKeepsMembershipSpec Rows.fnInRangeRewriteKeepsMembershipRow = true := by kernel_rfl
theorem c21 : (fun (P : Program) (f : FuncId) (fn : Func) (s : ChangeSpec) (c : OpenClaim) => ((c.loopsOut == fn.resultTypes.toList.any (P.loopsFrom ·)) : Bool)) Tryz.prog 5 Tryz.f5 Rows.fnInRangeRewriteKeepsMembershipSpec Rows.fnInRangeRewriteKeepsMembershipRow = true := by kernel_rfl
theorem c22 : (fun (P : Program) (f : FuncId) (fn : Func) (s : ChangeSpec) (c : OpenClaim) => ((c.plainKeys == P.plainKeys) : Bool)) Tryz.prog 5 Tryz.f5 Rows.fnInRangeRewriteKeepsMembershipSpec Rows.fnInRangeRewriteKeepsMembershipRow = true := by kernel_rfl
theorem c23 : (fun (P : Program) (f : FuncId) (fn : Func) (s : ChangeSpec) (c : OpenClaim) => (c.shortTexts.isNone : Bool)) Tryz.prog 5 Tryz.f5 Rows.fnInRangeRewriteKeepsMembershipSpec Rows.fnInRangeRewriteKeepsMembershipRow = true := by kernel_rfl
theorem c24 : (fun (P : Program) (f : FuncId) (fn : Func) (s : ChangeSpec) (c : OpenClaim) => (P.stopsHeard : Bool)) Tryz.prog 5 Tryz.f5 Rows.fnInRangeRewriteKeepsMembershipSpec Rows.fnInRangeRewriteKeepsMembershipRow = true := by kernel_rfl
theorem c25 : (fun (P : Program) (f : FuncId) (fn : Func) (s : ChangeSpec) (c : OpenClaim) => (P.mayEnter : Bool)) Tryz.prog 5 Tryz.f5 Rows.fnInRangeRewriteKeepsMembershipSpec Rows.fnInRangeRewriteKeepsMembershipRow = true := by kernel_rfl
theorem c26 : (fun (P : Program) (f : FuncId) (fn : Func) (s : ChangeSpec) (c : OpenClaim) => ((c.lifted == P.liftsFinal) : Bool)) Tryz.prog 5 Tryz.f5 Rows.fnInRangeRewriteKeepsMembershipSpec Rows.fnInRangeRewriteKeepsMembershipRow = true := by kernel_rfl
theorem c27 : (fun (P : Program) (f : FuncId) (fn : Func) (s : ChangeSpec) (c : OpenClaim) => ((P.make == some c.make) : Bool)) Tryz.prog 5 Tryz.f5 Rows.fnInRangeRewriteKeepsMembershipSpec Rows.fnInRangeRewriteKeepsMembershipRow = true := by kernel_rfl
theorem c28 : (fun (P : Program) (f : FuncId) (fn : Func) (s : ChangeSpec) (c : OpenClaim) => ((c.kinds == (if c.domain.isEmpty then [] else fn.params.toList.map fun t => match P.underlying t with | some (.int k) => some k | _ => none)) : Bool)) Tryz.prog 5 Tryz.f5 Rows.fnInRangeRewriteKeepsMembershipSpec Rows.fnInRangeRewriteKeepsMembershipRow = true := by kernel_rfl
theorem c29 : (fun (P : Program) (f : FuncId) (fn : Func) (s : ChangeSpec) (c : OpenClaim) => ((c.pinned == c.pinnedBy) : Bool)) Tryz.prog 5 Tryz.f5 Rows.fnInRangeRewriteKeepsMembershipSpec Rows.fnInRangeRewriteKeepsMembershipRow = true := by kernel_rfl
theorem c30 : (fun (P : Program) (f : FuncId) (fn : Func) (s : ChangeSpec) (c : OpenClaim) => ((c.veiled == (fn.params.toList ++ s.plain.varTypes P ++ fn.resultTypes.toList).any (P.veiledRec ·)) : Bool)) Tryz.prog 5 Tryz.f5 Rows.fnInRangeRewriteKeepsMembershipSpec Rows.fnInRangeRewriteKeepsMembershipRow = true := by kernel_rfl
theorem c31 : (fun (P : Program) (f : FuncId) (fn : Func) (s : ChangeSpec) (c : OpenClaim) => (c.veiledFits P fn.params.toList (fn.params.toList ++ s.plain.varTypes P ++ fn.resultTypes.toList) : Bool)) Tryz.prog 5 Tryz.f5 Rows.fnInRangeRewriteKeepsMembershipSpec Rows.fnInRangeRewriteKeepsMembershipRow = true := by kernel_rfl
set_option maxRecDepth 100000 in
theorem closed : joinedFacts Tryz.prog 5 Tryz.f5 Rows.fnInRangeRewriteKeepsMembershipSpec Rows.fnInRangeRewriteKeepsMembershipRow = true := by
  unfold joinedFacts
  exact (and2 (and2 (and2 (and2 (and2 (and2 (and2 (and2 (and2 (and2 (and2 (and2 (and2 (and2 (and2 (and2 (and2 (and2 (and2 (and2 (and2 (and2 (and2 (and2 (and2 (and2 (and2 (and2 (and2 (and2 (and2 c0 c1) c2) c3) c4) c5) c6) c7) c8) c9) c10) c11) c12) c13) c14) c15) c16) c17) c18) c19) c20) c21) c22) c23) c24) c25) c26) c27) c28) c29) c30) c31)
theorem named : Tryz.pinned.checked.prog.funcNamed Rows.fnInRangeRewriteKeepsMembershipRow.func = some 5 := by kernel_rfl
theorem inst : Tryz.f5.isInstance Tryz.pinned.checked.prog Rows.fnInRangeRewriteKeepsMembershipRow.origin Rows.fnInRangeRewriteKeepsMembershipRow.targs := of_decide_eq_true (by kernel_rfl)
theorem wrap : Tryz.f5.isWrapper Tryz.pinned.checked.prog Rows.fnInRangeRewriteKeepsMembershipRow.wrapper Rows.fnInRangeRewriteKeepsMembershipRow.mainSum := by unfold Func.isWrapper; first | (rw [if_pos (by decide +kernel)]; kernel_rfl) | (rw [if_neg (by decide +kernel)]; exact ⟨rfl, rfl⟩)

theorem over : Rows.fnInRangeRewriteKeepsMembershipRow.holds Tryz.pinned (OpenSpec.ofChange Rows.fnInRangeRewriteKeepsMembershipSpec) :=
  OpenClaim.holds_of_wide 5 Tryz.f5 rfl rfl rfl rfl rfl rfl rfl ⟨rfl, rfl, rfl, rfl, rfl⟩ rfl rfl rfl rfl rfl named Tryz.func5 closed inst wrap
    (fun os started H enc _ => lifted os started H enc)

/-- ████ THE STATEMENT ████ -/
theorem proved : Rows.FnInRangeRewriteKeepsMembershipSaid :=
  over
#print axioms proved
end Go.Proofs.YthhijnemlhjpgaaGreat.fnInRangeRewriteKeepsMembership

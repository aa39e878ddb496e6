/-
  What is proved here: FnInArrayIntSetExact of n003_104 returns true for every slice of ints, every int8 and every int, and leaves its arguments as they were. No condition. The row's own premise: the cut keeps package reflect's rows without bodies ("reflectrows", "leanrows"), and the model's own entries answer for it.
  The frame of the proof was written by the kit's proof-skeleton.mjs; the walk is by hand.
-/
import Derived.Test.YthhijnemlhjpgaaGreatRows
import Derived.WalkKit
import Derived.ProofKit
import Derived.OpenShut
import Derived.Test.YthhijnemlhjpgaaGreatLw
import Derived.ShutString
import Derived.ChangeOld
import Derived.Below
namespace Go.Proofs.YthhijnemlhjpgaaGreat.fnInArrayIntSetExact
open Go.ChangeShapes Go.WideShapes Go.ChangeAt Go.RowKit
open Go.ChangeMaps (open_string shut_string)
set_option linter.unusedVariables false

theorem own : ownKnob Tryz.prog.godebug = none := by kernel_rfl
theorem laidOut : laidOutB Tryz.prog = true := by kernel_rfl

/-- WHAT THE WALK IS TOLD OF A SLICE OF INTEGERS THAT CAME IN: it is nil; or it leads to a row of 'cap' cells, the numbers 'zs' (the first 'len' are its elements, the rest its spare room), each fitting its kind. -/
def IsRow (k : IntKind) (w : World) (a : Option Addr) (len cap : Nat) (zs : List Int) : Prop :=
  (a = none ∧ len = 0 ∧ cap = 0 ∧ zs = []) ∨
  ∃ x, a = some x ∧ len ≤ cap ∧ cap ≤ maxLen ∧ zs.length = cap ∧ (∀ i, i < zs.length → w.cell? (x.add i) = some (.int k (zs.getD i 0))) ∧ ∀ n ∈ zs, (Lit.int k n).wf = true

/-! ### STEP 1: THE WALK: the Go text returns true, AND WRITES NOTHING THAT WAS THERE: 'Below w.heap.size w w'' (Derived/Below.lean: '.refl', '.alloc', '.drew', '.setCell' at a new block, '.trans'). Open each 'IsRow' by 'rcases' AHEAD of 'go_enter'; part every test ahead of the walk. -/
theorem walk (a0 : Option Addr) (len0 cap0 : Nat) (z0 : List Int) (a1 : Int) (a2 : Int) (w : World) (w0 : IsRow .i64 w a0 len0 cap0 z0) (w1 : (Lit.int .i8 a1).wf = true) (w2 : (Lit.int .i64 a2).wf = true) :
    Calls Tryz.prog 3 #[.slice a0 len0 cap0, .int .i8 a1, .int .i64 a2] w fun e w' => e = .returned (.bool true) ∧ Below w.heap.size w w' := by
  exact walkI a0 len0 cap0 z0 a1 a2 w w0 w1

/-! ### THE ROW's STEP: WRITTEN OUT: LEAVE IT -/
set_option maxRecDepth 100000 in
theorem lifted (os : Os) (started : os.Started) (H : Type) (enc : TypeId × Value → H) :
    ReturnsInHanded {} Tryz.checked os 3 .any (Rows.fnInArrayIntSetExactSpec.pre6 enc Tryz.prog Tryz.f3 Rows.fnInArrayIntSetExactRow.domain false) (Rows.fnInArrayIntSetExactSpec.post enc Tryz.prog Tryz.f3 false true false false) := by
  refine returnsInHanded_of_change (C := Tryz.checked) own started (by kernel_rfl) Tryz.func3
    (ChangeSpec.witness6 (enc := enc) (C := Tryz.checked) false ⟨#[], #[.slice none 0 0, .int .i8 0, .int .i64 0], []⟩ 8 (by kernel_rfl) (by kernel_rfl) (by kernel_rfl) (by kernel_rfl)) ?_
  intro W base args ds gs before hval0 hW hcnd _
  have hval : ∀ (j : Nat) t v, Tryz.f3.params[j]? = some t → args[j]? = some v → Value.okWide Tryz.prog W .any base t v := hval0
  have hW' := hW
  obtain ⟨p, q, hA0, hV, rfl, hfz, hnd⟩ := hW
  have hA : DataW.TrodAll enc Tryz.prog W 0 (fun _ => true) true Tryz.f3.params.toList args.toList ds p := hA0
  rw [Tryz.params3] at hA hval
  obtain ⟨v0, vs0, d0, ds0, p0, q0, hargs, rfl, rfl, h0, r0⟩ := trodAll_cons hA
  obtain ⟨v1, vs1, d1, ds1, p1, q1, rfl, rfl, rfl, h1, r1⟩ := trodAll_cons r0
  obtain ⟨v2, vs2, d2, ds2, p2, q2, rfl, rfl, rfl, h2, r2⟩ := trodAll_cons r1
  obtain ⟨rfl, rfl, rfl⟩ := trodAll_nil r2
  obtain rfl : args = #[v0, v1, v2] := by cases args; simp_all
  obtain ⟨rfl, rfl⟩ := trodVars_none hV
  obtain ⟨a0, len0, cap0, rfl⟩ := okWide_slice Tryz.underlying36 (hval 0 36 v0 rfl rfl)
  have k0 := h0
  have lt0 : ∀ x ∈ p0, x.block < W.heap.size := by obtain ⟨m, hm⟩ := k0; exact DataW.trod_lt m _ _ _ hm
  obtain ⟨z0, w0⟩ : ∃ zs, IsRow .i64 W a0 len0 cap0 zs := by
    obtain ⟨fuel, hf⟩ := h0
    rcases open_ints Tryz.underlying36 Tryz.underlying3 (by kernel_rfl) hf with ⟨hcs, _⟩ | ⟨x, l, c, zs, hcs, _, hl, hm, hz, _, hcell, hwz⟩
    · simp [Value.cells] at hcs
      obtain ⟨rfl, rfl, rfl⟩ := hcs
      exact ⟨[], .inl ⟨rfl, rfl, rfl, rfl⟩⟩
    · simp [Value.cells] at hcs
      obtain ⟨rfl, rfl, rfl⟩ := hcs
      exact ⟨zs, .inr ⟨_, rfl, hl, hm, by simpa using hz, hcell, hwz⟩⟩
  obtain ⟨a1, rfl, rfl, rfl, w1⟩ := open_int Tryz.underlying29 (hval 1 29 v1 rfl rfl) h1
  obtain ⟨a2, rfl, rfl, rfl, w2⟩ := open_int Tryz.underlying3 (hval 2 3 v2 rfl rfl) h2
  clear hA0 hval0
  refine (walk a0 len0 cap0 z0 a1 a2 W w0 w1 w2).mono fun e W' ⟨he, bel⟩ => ?_
  subst he
  exact ⟨_, rfl, _, _, _, [], _, [], hW', trodAll_mk1 (shut_bool Tryz.underlying4 _), (trodAll_cons_mk (Below.trod laidOut (by kernel_rfl) (of_decide_eq_true (by kernel_rfl)) k0 bel lt0) (trodAll_cons_mk (shut_int Tryz.underlying29 w1) (trodAll_cons_mk (shut_int Tryz.underlying3 w2) trodAll_mk0))), rfl, bel.frame _, fun h => by cases h⟩

theorem and2 {a b : Bool} (h : a = true) (g : b = true) : (a && b) = true := by rw [h, g]; rfl
theorem c0 : (fun (P : Program) (f : FuncId) (fn : Func) (s : ChangeSpec) (c : OpenClaim) => (c.wf (OpenSpec.ofChange s) : Bool)) Tryz.prog 3 Tryz.f3 Rows.fnInArrayIntSetExactSpec Rows.fnInArrayIntSetExactRow = true := by kernel_rfl
theorem c1 : (fun (P : Program) (f : FuncId) (fn : Func) (s : ChangeSpec) (c : OpenClaim) => (laidOutB P : Bool)) Tryz.prog 3 Tryz.f3 Rows.fnInArrayIntSetExactSpec Rows.fnInArrayIntSetExactRow = true := by kernel_rfl
theorem c2 : (fun (P : Program) (f : FuncId) (fn : Func) (s : ChangeSpec) (c : OpenClaim) => (mapsRowed P : Bool)) Tryz.prog 3 Tryz.f3 Rows.fnInArrayIntSetExactSpec Rows.fnInArrayIntSetExactRow = true := by kernel_rfl
theorem c3 : (fun (P : Program) (f : FuncId) (fn : Func) (s : ChangeSpec) (c : OpenClaim) => (fn.params.all (P.readableRec ·) : Bool)) Tryz.prog 3 Tryz.f3 Rows.fnInArrayIntSetExactSpec Rows.fnInArrayIntSetExactRow = true := by kernel_rfl
theorem c4 : (fun (P : Program) (f : FuncId) (fn : Func) (s : ChangeSpec) (c : OpenClaim) => (namedTie P c.named s.vars : Bool)) Tryz.prog 3 Tryz.f3 Rows.fnInArrayIntSetExactSpec Rows.fnInArrayIntSetExactRow = true := by kernel_rfl
theorem c5 : (fun (P : Program) (f : FuncId) (fn : Func) (s : ChangeSpec) (c : OpenClaim) => ((c.stops == []) : Bool)) Tryz.prog 3 Tryz.f3 Rows.fnInArrayIntSetExactSpec Rows.fnInArrayIntSetExactRow = true := by kernel_rfl
theorem c6 : (fun (P : Program) (f : FuncId) (fn : Func) (s : ChangeSpec) (c : OpenClaim) => ((P.stops == []) : Bool)) Tryz.prog 3 Tryz.f3 Rows.fnInArrayIntSetExactSpec Rows.fnInArrayIntSetExactRow = true := by kernel_rfl
theorem c7 : (fun (P : Program) (f : FuncId) (fn : Func) (s : ChangeSpec) (c : OpenClaim) => ((c.knobs == []) : Bool)) Tryz.prog 3 Tryz.f3 Rows.fnInArrayIntSetExactSpec Rows.fnInArrayIntSetExactRow = true := by kernel_rfl
theorem c8 : (fun (P : Program) (f : FuncId) (fn : Func) (s : ChangeSpec) (c : OpenClaim) => ((P.stopKnobs == []) : Bool)) Tryz.prog 3 Tryz.f3 Rows.fnInArrayIntSetExactSpec Rows.fnInArrayIntSetExactRow = true := by kernel_rfl
theorem c9 : (fun (P : Program) (f : FuncId) (fn : Func) (s : ChangeSpec) (c : OpenClaim) => ((c.inPlace == P.inPlace f) : Bool)) Tryz.prog 3 Tryz.f3 Rows.fnInArrayIntSetExactSpec Rows.fnInArrayIntSetExactRow = true := by kernel_rfl
theorem c10 : (fun (P : Program) (f : FuncId) (fn : Func) (s : ChangeSpec) (c : OpenClaim) => ((c.unfollowed == P.unfollowed f) : Bool)) Tryz.prog 3 Tryz.f3 Rows.fnInArrayIntSetExactSpec Rows.fnInArrayIntSetExactRow = true := by kernel_rfl
theorem c11 : (fun (P : Program) (f : FuncId) (fn : Func) (s : ChangeSpec) (c : OpenClaim) => ((c.recurses == P.recurses f) : Bool)) Tryz.prog 3 Tryz.f3 Rows.fnInArrayIntSetExactSpec Rows.fnInArrayIntSetExactRow = true := by kernel_rfl
theorem c12 : (fun (P : Program) (f : FuncId) (fn : Func) (s : ChangeSpec) (c : OpenClaim) => ((c.named == P.varsNamed f) : Bool)) Tryz.prog 3 Tryz.f3 Rows.fnInArrayIntSetExactSpec Rows.fnInArrayIntSetExactRow = true := by kernel_rfl
theorem c13 : (fun (P : Program) (f : FuncId) (fn : Func) (s : ChangeSpec) (c : OpenClaim) => ((c.maps == (fn.params.toList ++ s.plain.varTypes P).any (P.mapsRec ·)) : Bool)) Tryz.prog 3 Tryz.f3 Rows.fnInArrayIntSetExactSpec Rows.fnInArrayIntSetExactRow = true := by kernel_rfl
theorem c14 : (fun (P : Program) (f : FuncId) (fn : Func) (s : ChangeSpec) (c : OpenClaim) => ((c.ifaces == (fn.params.toList ++ s.plain.varTypes P).any (P.ifacesRec ·)) : Bool)) Tryz.prog 3 Tryz.f3 Rows.fnInArrayIntSetExactSpec Rows.fnInArrayIntSetExactRow = true := by kernel_rfl
theorem c15 : (fun (P : Program) (f : FuncId) (fn : Func) (s : ChangeSpec) (c : OpenClaim) => ((c.mapsOut == P.mapsAmong fn.resultTypes.toList) : Bool)) Tryz.prog 3 Tryz.f3 Rows.fnInArrayIntSetExactSpec Rows.fnInArrayIntSetExactRow = true := by kernel_rfl
theorem c16 : (fun (P : Program) (f : FuncId) (fn : Func) (s : ChangeSpec) (c : OpenClaim) => ((c.loops == (fn.params.toList ++ s.plain.varTypes P).any (P.loopsFrom ·)) : Bool)) Tryz.prog 3 Tryz.f3 Rows.fnInArrayIntSetExactSpec Rows.fnInArrayIntSetExactRow = true := by kernel_rfl
theorem c17 : (fun (P : Program) (f : FuncId) (fn : Func) (s : ChangeSpec) (c : OpenClaim) => ((c.wideKeys == (fn.params.toList ++ s.plain.varTypes P ++ fn.resultTypes.toList).any (P.wideKeysFrom ·)) : Bool)) Tryz.prog 3 Tryz.f3 Rows.fnInArrayIntSetExactSpec Rows.fnInArrayIntSetExactRow = true := by kernel_rfl
theorem c18 : (fun (P : Program) (f : FuncId) (fn : Func) (s : ChangeSpec) (c : OpenClaim) => (s.vars.all (P.varReadable ·) : Bool)) Tryz.prog 3 Tryz.f3 Rows.fnInArrayIntSetExactSpec Rows.fnInArrayIntSetExactRow = true := by kernel_rfl
theorem c19 : (fun (P : Program) (f : FuncId) (fn : Func) (s : ChangeSpec) (c : OpenClaim) => (fn.resultTypes.all (fun t => P.readableRec t && decide (t < P.types.size)) : Bool)) Tryz.prog 3 Tryz.f3 Rows.fnInArrayIntSetExactSpec Rows.fnInArrayIntSetExactRow = true := by kernel_rfl
theorem c20 : (fun (P : Program) (f : FuncId) (fn : Func) (s : ChangeSpec) (c : OpenClaim) => ((c.ifacesOut == fn.resultTypes.toList.any (P.ifacesRec ·)) : Bool)) Tryz.prog 3 Tryz.f3 Rows.fnInArrayIntSetExactSpec Rows.fnInArrayIntSetExactRow = true := by kernel_rfl
theorem c21 : (fun (P : Program) (f : FuncId) (fn : Func) (s : ChangeSpec) (c : OpenClaim) => ((c.loopsOut == fn.resultTypes.toList.any (P.loopsFrom ·)) : Bool)) Tryz.prog 3 Tryz.f3 Rows.fnInArrayIntSetExactSpec Rows.fnInArrayIntSetExactRow = true := by kernel_rfl
theorem c22 : (fun (P : Program) (f : FuncId) (fn : Func) (s : ChangeSpec) (c : OpenClaim) => ((c.plainKeys == P.plainKeys) : Bool)) Tryz.prog 3 Tryz.f3 Rows.fnInArrayIntSetExactSpec Rows.fnInArrayIntSetExactRow = true := by kernel_rfl
theorem c23 : (fun (P : Program) (f : FuncId) (fn : Func) (s : ChangeSpec) (c : OpenClaim) => (c.shortTexts.isNone : Bool)) Tryz.prog 3 Tryz.f3 Rows.fnInArrayIntSetExactSpec Rows.fnInArrayIntSetExactRow = true := by kernel_rfl
theorem c24 : (fun (P : Program) (f : FuncId) (fn : Func) (s : ChangeSpec) (c : OpenClaim) => (P.stopsHeard : Bool)) Tryz.prog 3 Tryz.f3 Rows.fnInArrayIntSetExactSpec Rows.fnInArrayIntSetExactRow = true := by kernel_rfl
theorem c25 : (fun (P : Program) (f : FuncId) (fn : Func) (s : ChangeSpec) (c : OpenClaim) => (P.mayEnter : Bool)) Tryz.prog 3 Tryz.f3 Rows.fnInArrayIntSetExactSpec Rows.fnInArrayIntSetExactRow = true := by kernel_rfl
theorem c26 : (fun (P : Program) (f : FuncId) (fn : Func) (s : ChangeSpec) (c : OpenClaim) => ((c.lifted == P.liftsFinal) : Bool)) Tryz.prog 3 Tryz.f3 Rows.fnInArrayIntSetExactSpec Rows.fnInArrayIntSetExactRow = true := by kernel_rfl
theorem c27 : (fun (P : Program) (f : FuncId) (fn : Func) (s : ChangeSpec) (c : OpenClaim) => ((P.make == some c.make) : Bool)) Tryz.prog 3 Tryz.f3 Rows.fnInArrayIntSetExactSpec Rows.fnInArrayIntSetExactRow = true := by kernel_rfl
theorem c28 : (fun (P : Program) (f : FuncId) (fn : Func) (s : ChangeSpec) (c : OpenClaim) => ((c.kinds == (if c.domain.isEmpty then [] else fn.params.toList.map fun t => match P.underlying t with | some (.int k) => some k | _ => none)) : Bool)) Tryz.prog 3 Tryz.f3 Rows.fnInArrayIntSetExactSpec Rows.fnInArrayIntSetExactRow = true := by kernel_rfl
theorem c29 : (fun (P : Program) (f : FuncId) (fn : Func) (s : ChangeSpec) (c : OpenClaim) => ((c.pinned == c.pinnedBy) : Bool)) Tryz.prog 3 Tryz.f3 Rows.fnInArrayIntSetExactSpec Rows.fnInArrayIntSetExactRow = true := by kernel_rfl
theorem c30 : (fun (P : Program) (f : FuncId) (fn : Func) (s : ChangeSpec) (c : OpenClaim) => ((c.veiled == (fn.params.toList ++ s.plain.varTypes P ++ fn.resultTypes.toList).any (P.veiledRec ·)) : Bool)) Tryz.prog 3 Tryz.f3 Rows.fnInArrayIntSetExactSpec Rows.fnInArrayIntSetExactRow = true := by kernel_rfl
theorem c31 : (fun (P : Program) (f : FuncId) (fn : Func) (s : ChangeSpec) (c : OpenClaim) => (c.veiledFits P fn.params.toList (fn.params.toList ++ s.plain.varTypes P ++ fn.resultTypes.toList) : Bool)) Tryz.prog 3 Tryz.f3 Rows.fnInArrayIntSetExactSpec Rows.fnInArrayIntSetExactRow = true := by kernel_rfl
set_option maxRecDepth 100000 in
theorem closed : joinedFacts Tryz.prog 3 Tryz.f3 Rows.fnInArrayIntSetExactSpec Rows.fnInArrayIntSetExactRow = true := by
  unfold joinedFacts
  exact (and2 (and2 (and2 (and2 (and2 (and2 (and2 (and2 (and2 (and2 (and2 (and2 (and2 (and2 (and2 (and2 (and2 (and2 (and2 (and2 (and2 (and2 (and2 (and2 (and2 (and2 (and2 (and2 (and2 (and2 (and2 c0 c1) c2) c3) c4) c5) c6) c7) c8) c9) c10) c11) c12) c13) c14) c15) c16) c17) c18) c19) c20) c21) c22) c23) c24) c25) c26) c27) c28) c29) c30) c31)
theorem named : Tryz.pinned.checked.prog.funcNamed Rows.fnInArrayIntSetExactRow.func = some 3 := by kernel_rfl
theorem inst : Tryz.f3.isInstance Tryz.pinned.checked.prog Rows.fnInArrayIntSetExactRow.origin Rows.fnInArrayIntSetExactRow.targs := of_decide_eq_true (by kernel_rfl)
theorem wrap : Tryz.f3.isWrapper Tryz.pinned.checked.prog Rows.fnInArrayIntSetExactRow.wrapper Rows.fnInArrayIntSetExactRow.mainSum := by unfold Func.isWrapper; first | (rw [if_pos (by decide +kernel)]; kernel_rfl) | (rw [if_neg (by decide +kernel)]; exact ⟨rfl, rfl⟩)

theorem over : Rows.fnInArrayIntSetExactRow.holds Tryz.pinned (OpenSpec.ofChange Rows.fnInArrayIntSetExactSpec) :=
  OpenClaim.holds_of_wide 3 Tryz.f3 rfl rfl rfl rfl rfl rfl rfl ⟨rfl, rfl, rfl, rfl, rfl⟩ rfl rfl rfl rfl rfl named Tryz.func3 closed inst wrap
    (fun os started H enc _ => lifted os started H enc)

/-- ████ THE STATEMENT ████ -/
theorem proved : Rows.FnInArrayIntSetExactSaid := over
#print axioms proved
end Go.Proofs.YthhijnemlhjpgaaGreat.fnInArrayIntSetExact

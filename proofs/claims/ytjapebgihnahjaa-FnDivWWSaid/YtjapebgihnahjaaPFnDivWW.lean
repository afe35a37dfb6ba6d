/-
  The given statement FnDivWWSaid: the law laws.FnDivWW answers true at every input, and its arguments read afterwards as before. Conditions: none beyond those of the given row.
-/
import Derived.Test.YtjapebgihnahjaaRows
import Derived.Test.YtjapebgihnahjaaShut
import Derived.Test.YtjapebgihnahjaaFrame
import Derived.Test.YtjapebgihnahjaaDivWL
import Derived.WalkKit
import Derived.ProofKit
import Derived.OpenShut
import Derived.ShutString
namespace Go.Proofs.Ytjapebgihnahjaa.fnDivWW
open Go.ChangeShapes Go.WideShapes Go.ChangeAt Go.RowKit
open Go.ChangeMaps (open_string shut_string)
set_option linter.unusedVariables false
theorem own : ownKnob Try.prog.godebug = none := by kernel_rfl
theorem walk (a0 : Int) (a1 : Int) (a2 : Int) (w0 : (Lit.int .u64 a0).wf = true) (w1 : (Lit.int .u64 a1).wf = true) (w2 : (Lit.int .u64 a2).wf = true) (w : World) :
    Calls Try.prog 17 #[.int .u64 a0, .int .u64 a1, .int .u64 a2] w fun e w' => e = .returned (.bool true) ∧ Below w.heap.size w w' := by
  obtain ⟨l0, u0⟩ := Go.Big.wf_u64 w0
  obtain ⟨l1, u1⟩ := Go.Big.wf_u64 w1
  obtain ⟨l2, u2⟩ := Go.Big.wf_u64 w2
  exact (Go.Proofs.Ytjapebgihnahjaa.law_FnDivWW a0 a1 a2 w l0 u0 l1 u1 l2 u2).mono fun e w' ⟨h, hf⟩ => ⟨h, hf.below⟩
set_option maxRecDepth 100000 in
theorem lifted (os : Os) (started : os.Started) (H : Type) (enc : TypeId × Value → H) :
    ReturnsInHanded {} Try.checked os 17 .any (Rows.fnDivWWSpec.pre6 enc Try.prog Try.f17 Rows.fnDivWWRow.domain false) (Rows.fnDivWWSpec.post enc Try.prog Try.f17 false true false false) := by
  refine returnsInHanded_of_change (C := Try.checked) own started (by kernel_rfl) Try.func17
    (ChangeSpec.witness6 (enc := enc) (C := Try.checked) false ⟨#[], #[.int .u64 0, .int .u64 0, .int .u64 0], []⟩ 8 (by kernel_rfl) (by kernel_rfl) (by kernel_rfl) (by kernel_rfl)) ?_
  intro W base args ds gs before hval0 hW hcnd _
  have hval : ∀ (j : Nat) t v, Try.f17.params[j]? = some t → args[j]? = some v → Value.okWide Try.prog W .any base t v := hval0
  have hW' := hW
  obtain ⟨p, q, hA0, hV, rfl, hfz, hnd⟩ := hW
  have hA : DataW.TrodAll enc Try.prog W 0 (fun _ => true) true Try.f17.params.toList args.toList ds p := hA0
  rw [Try.params17] at hA hval
  obtain ⟨v0, vs0, d0, ds0, p0, q0, hargs, rfl, rfl, h0, r0⟩ := trodAll_cons hA
  obtain ⟨v1, vs1, d1, ds1, p1, q1, rfl, rfl, rfl, h1, r1⟩ := trodAll_cons r0
  obtain ⟨v2, vs2, d2, ds2, p2, q2, rfl, rfl, rfl, h2, r2⟩ := trodAll_cons r1
  obtain ⟨rfl, rfl, rfl⟩ := trodAll_nil r2
  obtain rfl : args = #[v0, v1, v2] := by cases args; simp_all
  obtain ⟨rfl, rfl⟩ := trodVars_none hV
  obtain ⟨a0, rfl, rfl, rfl, w0⟩ := open_int Try.underlying31 (hval 0 31 v0 rfl rfl) h0
  obtain ⟨a1, rfl, rfl, rfl, w1⟩ := open_int Try.underlying31 (hval 1 31 v1 rfl rfl) h1
  obtain ⟨a2, rfl, rfl, rfl, w2⟩ := open_int Try.underlying31 (hval 2 31 v2 rfl rfl) h2
  clear hA0 hval0
  simp only [List.append_nil] at hW'
  refine (walk a0 a1 a2 w0 w1 w2 W).mono fun e W' ⟨he, hg⟩ => ?_
  subst he
  exact ⟨_, rfl, _, _, _, [], _, [], hW', (trodAll_cons_mk (shut_bool Try.underlying4 _) trodAll_mk0), (trodAll_cons_mk (shut_int Try.underlying31 w0) (trodAll_cons_mk (shut_int Try.underlying31 w1) (trodAll_cons_mk (shut_int Try.underlying31 w2) trodAll_mk0))), rfl, hg.frame _, fun h => by cases h⟩
theorem fnamed : Try.pinned.checked.prog.funcNamed Rows.fnDivWWRow.func = some 17 := by kernel_rfl
set_option maxHeartbeats 8000000 in
theorem closed : joinedFacts Try.pinned.checked.prog 17 Try.f17 Rows.fnDivWWSpec Rows.fnDivWWRow = true := by
  unfold joinedFacts
  simp only [Bool.and_eq_true, Shut.laidOut, Shut.rowed, Shut.stops, Shut.knobs, Shut.plain, Shut.heard, Shut.enter, Shut.lifts, Shut.make]
  repeat' apply And.intro
  all_goals (first | (with_reducible exact True.intro) | (as_aux_lemma => kernel_rfl))
theorem over : Rows.fnDivWWRow.holds Try.pinned (OpenSpec.ofChange Rows.fnDivWWSpec) :=
  OpenClaim.holds_of_wide 17 Try.f17 rfl rfl rfl rfl rfl rfl rfl ⟨rfl, rfl, rfl, rfl, rfl⟩ rfl rfl rfl rfl rfl fnamed Try.func17 closed
    (of_decide_eq_true (by kernel_rfl)) (by unfold Func.isWrapper; first | (rw [if_pos (by decide +kernel)]; kernel_rfl) | (rw [if_neg (by decide +kernel)]; exact ⟨rfl, rfl⟩))
    (fun os started H enc _ => lifted os started H enc)
theorem proved : Rows.FnDivWWSaid :=
  over
#print axioms proved
end Go.Proofs.Ytjapebgihnahjaa.fnDivWW

import Derived.Test.Qxb6601608aRows
import Derived.Test.Qxb6601608aFnNextLineMatchesModelWalk
import Derived.Test.Qxb6601608aFacts
import Derived.WalkKit
import Derived.ProofKit
import Derived.OpenShut
import Derived.ShutString
import Derived.ChangeOld
import Derived.Below
namespace Go.Proofs.Qxb6601608a.fnNextLineMatchesModel
open Go.ChangeShapes Go.WideShapes Go.ChangeAt Go.RowKit
open Go.ChangeMaps (open_string shut_string)
set_option linter.unusedVariables false      

theorem own : ownKnob Try.prog.godebug = none := by kernel_rfl

set_option maxRecDepth 100000 in
theorem lifted (os : Os) (started : os.Started) (H : Type) (enc : TypeId × Value → H) :
    ReturnsInHanded {} Try.checked os 6 .any (Rows.fnNextLineMatchesModelSpec.pre6 enc Try.prog Try.f6 Rows.fnNextLineMatchesModelRow.domain false) (Rows.fnNextLineMatchesModelSpec.post enc Try.prog Try.f6 false true false false) := by
  refine returnsInHanded_of_change (C := Try.checked) own started (by kernel_rfl) Try.func6
    (ChangeSpec.witness6 (enc := enc) (C := Try.checked) false ⟨#[], #[.string ByteArray.empty, .int .i64 0], []⟩ 8 (by kernel_rfl) (by kernel_rfl) (by kernel_rfl) (by kernel_rfl)) ?_
  intro W base args ds gs before hval0 hW hcnd _
  have hval : ∀ (j : Nat) t v, Try.f6.params[j]? = some t → args[j]? = some v → Value.okWide Try.prog W .any base t v := hval0
  have hW' := hW
  obtain ⟨p, q, hA0, hV, rfl, hfz, hnd⟩ := hW
  have hA : DataW.TrodAll enc Try.prog W 0 (fun _ => true) true Try.f6.params.toList args.toList ds p := hA0
  rw [Try.params6] at hA hval
  obtain ⟨v0, vs0, d0, ds0, p0, q0, hargs, rfl, rfl, h0, r0⟩ := trodAll_cons hA
  obtain ⟨v1, vs1, d1, ds1, p1, q1, rfl, rfl, rfl, h1, r1⟩ := trodAll_cons r0
  obtain ⟨rfl, rfl, rfl⟩ := trodAll_nil r1
  obtain rfl : args = #[v0, v1] := by cases args; simp_all
  obtain ⟨rfl, rfl⟩ := trodVars_none hV
  obtain ⟨a0, rfl, rfl, rfl, w0⟩ := open_string Try.underlying9 (hval 0 9 v0 rfl rfl) h0
  obtain ⟨a1, rfl, rfl, rfl, w1⟩ := open_int Try.underlying3 (hval 1 3 v1 rfl rfl) h1
  clear hA0 hval0
  refine (walk a0 a1 w0 w1 W).mono fun e W' ⟨he, bel⟩ => ?_
  subst he
  exact ⟨_, rfl, _, _, _, [], [], [], hW', trodAll_mk1 (shut_bool Try.underlying4 _), (trodAll_cons_mk (shut_string Try.underlying9 w0) (trodAll_cons_mk (shut_int Try.underlying3 w1) trodAll_mk0)), rfl, bel.frame _, fun h => by cases h⟩

theorem named : Try.pinned.checked.prog.funcNamed Rows.fnNextLineMatchesModelRow.func = some 6 := by kernel_rfl
theorem inPlaceFact : (Rows.fnNextLineMatchesModelRow.inPlace == Try.pinned.checked.prog.inPlace 6) = true := by kernel_rfl
theorem unfollowedFact : (Rows.fnNextLineMatchesModelRow.unfollowed == Try.pinned.checked.prog.unfollowed 6) = true := by kernel_rfl
theorem recursesFact : (Rows.fnNextLineMatchesModelRow.recurses == Try.pinned.checked.prog.recurses 6) = true := by kernel_rfl
theorem varsNamedFact : (Rows.fnNextLineMatchesModelRow.named == Try.pinned.checked.prog.varsNamed 6) = true := by kernel_rfl
theorem closedFacts : joinedFacts Try.pinned.checked.prog 6 Try.f6 Rows.fnNextLineMatchesModelSpec Rows.fnNextLineMatchesModelRow = true := by
  unfold joinedFacts
  rw [inPlaceFact, unfollowedFact, recursesFact, varsNamedFact, liftsFact, makeFact, enterFact]
  kernel_rfl
theorem instFacts : Try.f6.isInstance Try.pinned.checked.prog Rows.fnNextLineMatchesModelRow.origin Rows.fnNextLineMatchesModelRow.targs := of_decide_eq_true (by kernel_rfl)
theorem wrapFacts : Try.f6.isWrapper Try.pinned.checked.prog Rows.fnNextLineMatchesModelRow.wrapper Rows.fnNextLineMatchesModelRow.mainSum := by
  unfold Func.isWrapper
  first | (rw [if_pos (by decide +kernel)]; kernel_rfl) | (rw [if_neg (by decide +kernel)]; exact ⟨rfl, rfl⟩)
theorem over : Rows.fnNextLineMatchesModelRow.holds Try.pinned (OpenSpec.ofChange Rows.fnNextLineMatchesModelSpec) :=
  OpenClaim.holds_of_wide 6 Try.f6 rfl rfl rfl rfl rfl rfl rfl ⟨rfl, rfl, rfl, rfl, rfl⟩ rfl rfl rfl rfl rfl named Try.func6 closedFacts
    instFacts wrapFacts (fun os started H enc _ => lifted os started H enc)

theorem proved : Rows.FnNextLineMatchesModelSaid :=
  over
end Go.Proofs.Qxb6601608a.fnNextLineMatchesModel

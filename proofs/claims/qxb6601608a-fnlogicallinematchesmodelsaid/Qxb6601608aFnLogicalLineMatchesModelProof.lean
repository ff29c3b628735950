import Derived.Test.Qxb6601608aRows
import Derived.Test.Qxb6601608aFnLogicalLineMatchesModelWalk
import Derived.Test.Qxb6601608aFacts
import Derived.WalkKit
import Derived.ProofKit
import Derived.OpenShut
import Derived.ShutString
import Derived.ChangeOld
import Derived.Below
namespace Go.Proofs.Qxb6601608a.fnLogicalLineMatchesModel
open Go.ChangeShapes Go.WideShapes Go.ChangeAt Go.RowKit
open Go.ChangeMaps (open_string shut_string)
set_option linter.unusedVariables false

theorem own : ownKnob Try.prog.godebug = none := by kernel_rfl
theorem laidOut : laidOutB Try.prog = true := by kernel_rfl

set_option maxRecDepth 100000 in
theorem lifted (os : Os) (started : os.Started) (H : Type) (enc : TypeId × Value → H) :
    ReturnsInHanded {} Try.checked os 8 .any (Rows.fnLogicalLineMatchesModelSpec.pre6 enc Try.prog Try.f8 Rows.fnLogicalLineMatchesModelRow.domain false) (Rows.fnLogicalLineMatchesModelSpec.post enc Try.prog Try.f8 false true false false) := by
  refine returnsInHanded_of_change (C := Try.checked) own started (by kernel_rfl) Try.func8
    (ChangeSpec.witness6 (enc := enc) (C := Try.checked) false ⟨#[], #[.string ByteArray.empty, .int .i64 0, .slice none 0 0], []⟩ 8 (by kernel_rfl) (by kernel_rfl) (by kernel_rfl) (by kernel_rfl)) ?_
  intro W base args ds gs before hval0 hW hcnd _
  have hval : ∀ (j : Nat) t v, Try.f8.params[j]? = some t → args[j]? = some v → Value.okWide Try.prog W .any base t v := hval0
  have hW' := hW
  obtain ⟨p, q, hA0, hV, rfl, hfz, hnd⟩ := hW
  have hA : DataW.TrodAll enc Try.prog W 0 (fun _ => true) true Try.f8.params.toList args.toList ds p := hA0
  rw [Try.params8] at hA hval
  obtain ⟨v0, vs0, d0, ds0, p0, q0, hargs, rfl, rfl, h0, r0⟩ := trodAll_cons hA
  obtain ⟨v1, vs1, d1, ds1, p1, q1, rfl, rfl, rfl, h1, r1⟩ := trodAll_cons r0
  obtain ⟨v2, vs2, d2, ds2, p2, q2, rfl, rfl, rfl, h2, r2⟩ := trodAll_cons r1
  obtain ⟨rfl, rfl, rfl⟩ := trodAll_nil r2
  obtain rfl : args = #[v0, v1, v2] := by cases args; simp_all
  obtain ⟨rfl, rfl⟩ := trodVars_none hV
  obtain ⟨a0, rfl, rfl, rfl, w0⟩ := open_string Try.underlying9 (hval 0 9 v0 rfl rfl) h0
  obtain ⟨a1, rfl, rfl, rfl, w1⟩ := open_int Try.underlying3 (hval 1 3 v1 rfl rfl) h1
  obtain ⟨a2, len2, cap2, rfl⟩ := okWide_slice Try.underlying28 (hval 2 28 v2 rfl rfl)
  have k2 := h2
  have lt2 : ∀ x ∈ p2, x.block < W.heap.size := by obtain ⟨m, hm⟩ := k2; exact DataW.trod_lt m _ _ _ hm
  obtain ⟨z2, w2⟩ : ∃ zs, IsRow .u8 W a2 len2 cap2 zs := by
    obtain ⟨fuel, hf⟩ := h2
    rcases open_ints Try.underlying28 Try.underlying5 (by kernel_rfl) hf with ⟨hcs, _⟩ | ⟨x, l, c, zs, hcs, _, hl, hm, hz, _, hcell, hwz⟩
    · simp [Value.cells] at hcs
      obtain ⟨rfl, rfl, rfl⟩ := hcs
      exact ⟨[], .inl ⟨rfl, rfl, rfl, rfl⟩⟩
    · simp [Value.cells] at hcs
      obtain ⟨rfl, rfl, rfl⟩ := hcs
      exact ⟨zs, .inr ⟨_, rfl, hl, hm, by simpa using hz, hcell, hwz⟩⟩
  clear hA0 hval0
  refine (walk a0 a1 a2 len2 cap2 z2 W w0 w1 w2).mono fun e W' ⟨he, bel⟩ => ?_
  subst he
  exact ⟨_, rfl, _, _, _, [], _, [], hW', trodAll_mk1 (shut_bool Try.underlying4 _), (trodAll_cons_mk (shut_string Try.underlying9 w0) (trodAll_cons_mk (shut_int Try.underlying3 w1) (trodAll_cons_mk (Below.trod laidOut (by kernel_rfl) (of_decide_eq_true (by kernel_rfl)) k2 bel lt2) trodAll_mk0))), rfl, bel.frame _, fun h => by cases h⟩

theorem named : Try.pinned.checked.prog.funcNamed Rows.fnLogicalLineMatchesModelRow.func = some 8 := by kernel_rfl
theorem inPlaceFact : (Rows.fnLogicalLineMatchesModelRow.inPlace == Try.pinned.checked.prog.inPlace 8) = true := by kernel_rfl
theorem unfollowedFact : (Rows.fnLogicalLineMatchesModelRow.unfollowed == Try.pinned.checked.prog.unfollowed 8) = true := by kernel_rfl
theorem recursesFact : (Rows.fnLogicalLineMatchesModelRow.recurses == Try.pinned.checked.prog.recurses 8) = true := by kernel_rfl
theorem varsNamedFact : (Rows.fnLogicalLineMatchesModelRow.named == Try.pinned.checked.prog.varsNamed 8) = true := by kernel_rfl
theorem closedFacts : joinedFacts Try.pinned.checked.prog 8 Try.f8 Rows.fnLogicalLineMatchesModelSpec Rows.fnLogicalLineMatchesModelRow = true := by
  unfold joinedFacts
  rw [inPlaceFact, unfollowedFact, recursesFact, varsNamedFact, liftsFact, makeFact, enterFact]
  kernel_rfl
theorem instFacts : Try.f8.isInstance Try.pinned.checked.prog Rows.fnLogicalLineMatchesModelRow.origin Rows.fnLogicalLineMatchesModelRow.targs := of_decide_eq_true (by kernel_rfl)
theorem wrapFacts : Try.f8.isWrapper Try.pinned.checked.prog Rows.fnLogicalLineMatchesModelRow.wrapper Rows.fnLogicalLineMatchesModelRow.mainSum := by
  unfold Func.isWrapper
  first | (rw [if_pos (by decide +kernel)]; kernel_rfl) | (rw [if_neg (by decide +kernel)]; exact ⟨rfl, rfl⟩)
theorem over : Rows.fnLogicalLineMatchesModelRow.holds Try.pinned (OpenSpec.ofChange Rows.fnLogicalLineMatchesModelSpec) :=
  OpenClaim.holds_of_wide 8 Try.f8 rfl rfl rfl rfl rfl rfl rfl ⟨rfl, rfl, rfl, rfl, rfl⟩ rfl rfl rfl rfl rfl named Try.func8 closedFacts
    instFacts wrapFacts (fun os started H enc _ => lifted os started H enc)

theorem proved : Rows.FnLogicalLineMatchesModelSaid := over
end Go.Proofs.Qxb6601608a.fnLogicalLineMatchesModel

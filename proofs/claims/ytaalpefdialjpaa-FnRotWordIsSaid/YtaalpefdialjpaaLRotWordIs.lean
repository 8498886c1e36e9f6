/- THE LAW 'FnRotWordIs': for every input the call returns true, and each argument reads behind the call as it read before. -/
import Derived.Test.YtaalpefdialjpaaRot
namespace Go.Proofs.Ytaalpefdialjpaa.fnRotWordIs
open Go.ChangeShapes Go.WideShapes Go.ChangeAt Go.RowKit
set_option linter.unusedVariables false
set_option maxRecDepth 100000 in
theorem lifted (os : Os) (started : os.Started) (H : Type) (enc : TypeId × Value → H) :
    ReturnsInHanded {} Try.checked os 3 .any (Rows.fnRotWordIsSpec.pre6 enc Try.prog Try.f3 Rows.fnRotWordIsRow.domain false) (Rows.fnRotWordIsSpec.post enc Try.prog Try.f3 false true false false) := by
  refine returnsInHanded_of_change (C := Try.checked) own started (by kernel_rfl) Try.func3
    (ChangeSpec.witness6 (enc := enc) (C := Try.checked) false ⟨#[], #[.int .u32 0], []⟩ 8 (by kernel_rfl) (by kernel_rfl) (by kernel_rfl) (by kernel_rfl)) ?_
  intro W base args ds gs before hval0 hW hcnd _
  have hval : ∀ (j : Nat) t v, Try.f3.params[j]? = some t → args[j]? = some v → Value.okWide Try.prog W .any base t v := hval0
  have hW' := hW
  obtain ⟨p, q, hA0, hV, rfl, hfz, hnd⟩ := hW
  have hA : DataW.TrodAll enc Try.prog W 0 (fun _ => true) true Try.f3.params.toList args.toList ds p := hA0
  rw [Try.params3] at hA hval
  obtain ⟨v0, vs0, d0, ds0, p0, q0, hargs, rfl, rfl, h0, r0⟩ := trodAll_cons hA
  obtain ⟨rfl, rfl, rfl⟩ := trodAll_nil r0
  obtain rfl : args = #[v0] := by cases args; simp_all
  obtain ⟨rfl, rfl⟩ := trodVars_none hV
  obtain ⟨a0, rfl, e0, e0', w0⟩ := open_int Try.underlying22 (hval 0 22 v0 rfl rfl) h0
  obtain ⟨x0, rfl⟩ := open_n32 w0
  refine (rot_is x0 W).mono fun e W' ⟨he, hb⟩ => ?_
  subst he
  exact ⟨_, rfl, post_true laidOut hW' rfl rfl (by rw [Try.params3]; exact readables (by decide)) rfl Try.underlying4 hb⟩

theorem closed : joinedFacts Try.pinned.checked.prog 3 Try.f3 Rows.fnRotWordIsSpec Rows.fnRotWordIsRow = true := by
  unfold joinedFacts
  simp only [Bool.and_eq_true]
  repeat' refine And.intro ?_ ?_
  all_goals first
    | (with_reducible exact mayEnter_is)
    | (rw [liftsFinal_is]; as_aux_lemma => kernel_rfl)
    | (rw [make_is]; as_aux_lemma => kernel_rfl)
    | (as_aux_lemma => kernel_rfl)

/-- ████ THE STATEMENT ████ -/
theorem proved : Rows.FnRotWordIsSaid :=
  OpenClaim.holds_of_wide 3 Try.f3 rfl rfl rfl rfl rfl rfl rfl ⟨rfl, rfl, rfl, rfl, rfl⟩ rfl rfl rfl rfl rfl (by kernel_rfl) Try.func3 closed
    (of_decide_eq_true (by kernel_rfl)) (by unfold Func.isWrapper; first | (rw [if_pos (by decide +kernel)]; kernel_rfl) | (rw [if_neg (by decide +kernel)]; exact ⟨rfl, rfl⟩))
    (fun os started H enc _ => lifted os started H enc)
#print axioms proved
end Go.Proofs.Ytaalpefdialjpaa.fnRotWordIs

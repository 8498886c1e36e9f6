/- THE LAW 'FnAuthMask': for every input the call returns true, and each argument reads behind the call as it read before. -/
import Derived.Test.YtdaebcaokoajjaaLaws3
namespace Go.Proofs.Ytdaebcaokoajjaa.fnAuthMask
open Go.ChangeShapes Go.WideShapes Go.ChangeAt Go.RowKit
set_option linter.unusedVariables false
set_option maxRecDepth 100000 in
theorem lifted (os : Os) (started : os.Started) (H : Type) (enc : TypeId × Value → H) :
    ReturnsInHanded {} Try.checked os 22 .any (Rows.fnAuthMaskSpec.pre6 enc Try.prog Try.f22 Rows.fnAuthMaskRow.domain false) (Rows.fnAuthMaskSpec.post enc Try.prog Try.f22 false true false false) := by
  refine returnsInHanded_of_change (C := Try.checked) own started (by kernel_rfl) Try.func22
    (ChangeSpec.witness6 (enc := enc) (C := Try.checked) false ⟨#[], #[.agg #[.int .u8 0, .int .u8 0, .int .u8 0, .int .u8 0, .int .u8 0, .int .u8 0, .int .u8 0, .int .u8 0, .int .u8 0, .int .u8 0, .int .u8 0, .int .u8 0, .int .u8 0, .int .u8 0, .int .u8 0, .int .u8 0], .agg #[.int .u8 0, .int .u8 0, .int .u8 0, .int .u8 0, .int .u8 0, .int .u8 0, .int .u8 0, .int .u8 0, .int .u8 0, .int .u8 0, .int .u8 0, .int .u8 0, .int .u8 0, .int .u8 0, .int .u8 0, .int .u8 0], .slice none 0 0, .slice none 0 0], []⟩ 8 (by kernel_rfl) (by kernel_rfl) (by kernel_rfl) (by kernel_rfl)) ?_
  intro W base args ds gs before hval0 hW hcnd _
  have hval : ∀ (j : Nat) t v, Try.f22.params[j]? = some t → args[j]? = some v → Value.okWide Try.prog W .any base t v := hval0
  have hW' := hW
  obtain ⟨p, q, hA0, hV, rfl, hfz, hnd⟩ := hW
  have hA : DataW.TrodAll enc Try.prog W 0 (fun _ => true) true Try.f22.params.toList args.toList ds p := hA0
  rw [Try.params22] at hA hval
  obtain ⟨v0, vs0, d0, ds0, p0, q0, hargs, rfl, rfl, h0, r0⟩ := trodAll_cons hA
  obtain ⟨v1, vs1, d1, ds1, p1, q1, rfl, rfl, rfl, h1, r1⟩ := trodAll_cons r0
  obtain ⟨v2, vs2, d2, ds2, p2, q2, rfl, rfl, rfl, h2, r2⟩ := trodAll_cons r1
  obtain ⟨v3, vs3, d3, ds3, p3, q3, rfl, rfl, rfl, h3, r3⟩ := trodAll_cons r2
  obtain ⟨rfl, rfl, rfl⟩ := trodAll_nil r3
  obtain rfl : args = #[v0, v1, v2, v3] := by cases args; simp_all
  obtain ⟨rfl, rfl⟩ := trodVars_none hV
  obtain ⟨x0, rfl⟩ := open_b16 (hval 0 27 v0 rfl rfl) h0
  obtain ⟨x1, rfl⟩ := open_b16 (hval 1 27 v1 rfl rfl) h1
  obtain ⟨bs2, hr2⟩ := open_bytes (hval 2 35 v2 rfl rfl) h2
  obtain ⟨bs3, hr3⟩ := open_bytes (hval 3 35 v3 rfl rfl) h3
  refine (mask_is x0 x1 bs2 bs3 v2 v3 W hr2 hr3).mono fun e W' ⟨he, hb⟩ => ?_
  subst he
  exact ⟨_, rfl, post_true laidOut hW' rfl rfl (by rw [Try.params22]; exact readables (by decide)) rfl Try.underlying4 hb⟩

theorem closed : joinedFacts Try.pinned.checked.prog 22 Try.f22 Rows.fnAuthMaskSpec Rows.fnAuthMaskRow = true := by
  unfold joinedFacts
  simp only [Bool.and_eq_true]
  repeat' refine And.intro ?_ ?_
  all_goals first
    | (with_reducible exact mayEnter_is)
    | (rw [liftsFinal_is]; as_aux_lemma => kernel_rfl)
    | (rw [make_is]; as_aux_lemma => kernel_rfl)
    | (as_aux_lemma => kernel_rfl)

/-- ████ THE STATEMENT ████ -/
theorem proved : Rows.FnAuthMaskSaid :=
  OpenClaim.holds_of_wide 22 Try.f22 rfl rfl rfl rfl rfl rfl rfl ⟨rfl, rfl, rfl, rfl, rfl⟩ rfl rfl rfl rfl rfl (by kernel_rfl) Try.func22 closed
    (of_decide_eq_true (by kernel_rfl)) (by unfold Func.isWrapper; first | (rw [if_pos (by decide +kernel)]; kernel_rfl) | (rw [if_neg (by decide +kernel)]; exact ⟨rfl, rfl⟩))
    (fun os started H enc _ => lifted os started H enc)
#print axioms proved
end Go.Proofs.Ytdaebcaokoajjaa.fnAuthMask

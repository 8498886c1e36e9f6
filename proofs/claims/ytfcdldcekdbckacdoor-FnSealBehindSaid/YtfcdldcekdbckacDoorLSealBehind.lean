/- The law 'fnSealBehind': for every input, and whatever the tables hold, the call returns true, and each argument reads behind the call as it read before. -/
import Derived.Test.YtfcdldcekdbckacDoorLawBehind
import Derived.Test.YtfcdldcekdbckacDoorClose4
namespace Go.Proofs.YtfcdldcekdbckacDoor.fnSealBehind
open Go.ChangeShapes Go.WideShapes Go.ChangeAt Go.RowKit
set_option linter.unusedVariables false
set_option maxRecDepth 100000 in
/-- The two halves joined: any key, any tag. -/
theorem beh_is (T : Tab) (ks xs ns bs ds : List (BitVec 8)) (t : Int) (vk va vn vb vd : Value) (w : World) (hT : TabAt T w) (hrk : rowOf 0 ks vk w) (hra : rowOf 0 xs va w) (hrn : rowOf 0 ns vn w) (hrb : rowOf 0 bs vb w) (hrd : rowOf 0 ds vd w) :
    Calls Tryd.prog 3 #[vk, .int .i64 t, va, vn, vb, vd] w (TrueP w) := by
  by_cases h : 2147483647 < ks.length ∨ 2147483647 < xs.length ∨ 2147483647 < ns.length ∨ 2147483647 < bs.length ∨ 2147483647 < ds.length ∨ keyB ks.length = false ∨ tagB t = false ∨ ns.length = 0 ∨ 16384 < xs.length + ns.length + bs.length + ds.length
  · exact beh_out ks xs ns bs ds t vk va vn vb vd w hrk hra hrn hrb hrd h
  · simp only [not_or] at h
    obtain ⟨_, _, _, _, _, h5, h6, h7, h8⟩ := h
    have hk : isKey ks := by
      unfold isKey
      cases e : keyB ks.length with
      | false => exact absurd e h5
      | true => unfold keyB at e; simpa using e
    have ht : 12 ≤ t ∧ t ≤ 16 := by
      cases e : tagB t with
      | false => exact absurd e h6
      | true => unfold tagB at e; simpa using e
    obtain ⟨n, rfl⟩ := Int.eq_ofNat_of_zero_le (show 0 ≤ t by omega)
    exact beh_in T ks xs ns bs ds n vk va vn vb vd w hT hrk hra hrn hrb hrd hk (by omega) (by omega) (by omega) (by omega)
set_option maxRecDepth 100000 in
theorem lifted (os : Os) (started : os.Started) (H : Type) (enc : TypeId × Value → H) :
    ReturnsInHanded {} Tryd.checked os 3 .any (Rows.fnSealBehindSpec.pre6 enc Tryd.prog Tryd.f3 Rows.fnSealBehindRow.domain false) (Rows.fnSealBehindSpec.post enc Tryd.prog Tryd.f3 false true false false) := by
  refine returnsInHanded_of_change (C := Tryd.checked) own started (by kernel_rfl) Tryd.func3
    (ChangeSpec.witness6 (enc := enc) (C := Tryd.checked) false ⟨#[], #[.slice none 0 0, .int .i64 0, .slice none 0 0, .slice none 0 0, .slice none 0 0, .slice none 0 0], []⟩ 8 (by kernel_rfl) (by kernel_rfl) (by kernel_rfl) (by kernel_rfl)) ?_
  intro W base args ds gs before hval0 hW hcnd _
  have hval : ∀ (j : Nat) t v, Tryd.f3.params[j]? = some t → args[j]? = some v → Value.okWide Tryd.prog W .any base t v := hval0
  have hW' := hW
  obtain ⟨p, q, hA0, hV, rfl, hfz, hnd⟩ := hW
  have hA : DataW.TrodAll enc Tryd.prog W 0 (fun _ => true) true Tryd.f3.params.toList args.toList ds p := hA0
  rw [Tryd.params3] at hA hval
  obtain ⟨v0, vs0, d0, ds0, p0, q0, hargs, rfl, rfl, h0, r0⟩ := trodAll_cons hA
  obtain ⟨v1, vs1, d1, ds1, p1, q1, rfl, rfl, rfl, h1, r1⟩ := trodAll_cons r0
  obtain ⟨v2, vs2, d2, ds2, p2, q2, rfl, rfl, rfl, h2, r2⟩ := trodAll_cons r1
  obtain ⟨v3, vs3, d3, ds3, p3, q3, rfl, rfl, rfl, h3, r3⟩ := trodAll_cons r2
  obtain ⟨v4, vs4, d4, ds4, p4, q4, rfl, rfl, rfl, h4, r4⟩ := trodAll_cons r3
  obtain ⟨v5, vs5, d5, ds5, p5, q5, rfl, rfl, rfl, h5, r5⟩ := trodAll_cons r4
  obtain ⟨rfl, rfl, rfl⟩ := trodAll_nil r5
  obtain rfl : args = #[v0, v1, v2, v3, v4, v5] := by cases args; simp_all
  obtain ⟨T, hT⟩ := open_more (show DataW.TrodVars enc Tryd.prog W (fun _ => true) moreNames gs q from hV)
  obtain ⟨bs0, hr0⟩ := open_bytes (hval 0 22 v0 rfl rfl) h0
  obtain ⟨a1, rfl, e1, e1', w1⟩ := open_int Tryd.underlying3 (hval 1 3 v1 rfl rfl) h1
  obtain ⟨bs2, hr2⟩ := open_bytes (hval 2 22 v2 rfl rfl) h2
  obtain ⟨bs3, hr3⟩ := open_bytes (hval 3 22 v3 rfl rfl) h3
  obtain ⟨bs4, hr4⟩ := open_bytes (hval 4 22 v4 rfl rfl) h4
  obtain ⟨bs5, hr5⟩ := open_bytes (hval 5 22 v5 rfl rfl) h5
  refine (beh_is T bs0 bs2 bs3 bs4 bs5 a1 v0 v2 v3 v4 v5 W hT hr0 hr2 hr3 hr4 hr5).mono fun e W' ⟨he, hb⟩ => ?_
  subst he
  have hgs := more_eleven (show DataW.TrodVars enc Tryd.prog W (fun _ => true) moreNames gs q from hV)
  exact ⟨_, rfl, post_true laidOut hW' (by kernel_rfl) (by obtain ⟨g1, g2, g3, g4, g5, g6, g7, g8, g9, g10, g11, rfl⟩ := hgs; rfl) (by rw [Tryd.params3]; exact readables (by decide)) rfl Tryd.underlying4 hb⟩

set_option maxHeartbeats 4000000 in
theorem closed : joinedFacts Tryd.pinned.checked.prog 3 Tryd.f3 Rows.fnSealBehindSpec Rows.fnSealBehindRow = true := by
  unfold joinedFacts
  simp only [Bool.and_eq_true]
  repeat' refine And.intro ?_ ?_
  all_goals (as_aux_lemma => kernel_rfl)

/-- ████ THE STATEMENT ████ -/
theorem proved : Rows.FnSealBehindSaid :=
  OpenClaim.holds_of_wide 3 Tryd.f3 rfl rfl rfl rfl rfl rfl rfl ⟨rfl, rfl, rfl, rfl, rfl⟩ rfl rfl rfl rfl rfl (by kernel_rfl) Tryd.func3 closed
    (of_decide_eq_true (by kernel_rfl)) (by unfold Func.isWrapper; first | (rw [if_pos (by decide +kernel)]; kernel_rfl) | (rw [if_neg (by decide +kernel)]; exact ⟨rfl, rfl⟩))
    (fun os started H enc _ => lifted os started H enc)
#print axioms proved
end Go.Proofs.YtfcdldcekdbckacDoor.fnSealBehind

/- The law 'fnCMACChain': for every input, and whatever the tables hold, the call returns true, and each argument reads behind the call as it read before. -/
import Derived.Test.YtfcdldcekdbckaeDoorLawMac
import Derived.Test.YtfcdldcekdbckaeDoorClose2
namespace Go.Proofs.YtfcdldcekdbckaeDoor.fnCMACChain
open Go.ChangeShapes Go.WideShapes Go.ChangeAt Go.RowKit
set_option linter.unusedVariables false
set_option maxRecDepth 100000 in
/-- The two halves joined: any key, any bytes. -/
theorem mac_is (T : Tab) (ks bs : List (BitVec 8)) (m : BitVec 128) (vk vb : Value) (w : World) (hT : TabAt T w) (hrk : rowOf 0 ks vk w) (hrb : rowOf 0 bs vb w) :
    Calls Tryd.prog 3 #[vk, vb, .agg (blk m)] w (TrueP w) := by
  by_cases h : 2147483647 < ks.length ∨ 2147483647 < bs.length ∨ keyB ks.length = false ∨ bs.length % 16 ≠ 0 ∨ bs.length = 0 ∨ 16384 < bs.length
  · exact mac_out ks bs m vk vb w hrk hrb h
  · simp only [not_or] at h
    obtain ⟨_, _, h3, h4, h5, h6⟩ := h
    have hk : isKey ks := by
      unfold isKey
      cases e : keyB ks.length with
      | false => exact absurd e h3
      | true => unfold keyB at e; simpa using e
    exact mac_in T ks bs (bs.length / 16) m vk vb w hT hrk hrb hk (by omega) (by omega) (by omega)
set_option maxRecDepth 100000 in
theorem lifted (os : Os) (started : os.Started) (H : Type) (enc : TypeId × Value → H) :
    ReturnsInHanded {} Tryd.checked os 3 .any (Rows.fnCMACChainSpec.pre6 enc Tryd.prog Tryd.f3 Rows.fnCMACChainRow.domain false) (Rows.fnCMACChainSpec.post enc Tryd.prog Tryd.f3 false true false false) := by
  refine returnsInHanded_of_change (C := Tryd.checked) own started (by kernel_rfl) Tryd.func3
    (ChangeSpec.witness6 (enc := enc) (C := Tryd.checked) false ⟨#[], #[.slice none 0 0, .slice none 0 0, .agg #[.int .u8 0, .int .u8 0, .int .u8 0, .int .u8 0, .int .u8 0, .int .u8 0, .int .u8 0, .int .u8 0, .int .u8 0, .int .u8 0, .int .u8 0, .int .u8 0, .int .u8 0, .int .u8 0, .int .u8 0, .int .u8 0]], []⟩ 8 (by kernel_rfl) (by kernel_rfl) (by kernel_rfl) (by kernel_rfl)) ?_
  intro W base args ds gs before hval0 hW hcnd _
  have hval : ∀ (j : Nat) t v, Tryd.f3.params[j]? = some t → args[j]? = some v → Value.okWide Tryd.prog W .any base t v := hval0
  have hW' := hW
  obtain ⟨p, q, hA0, hV, rfl, hfz, hnd⟩ := hW
  have hA : DataW.TrodAll enc Tryd.prog W 0 (fun _ => true) true Tryd.f3.params.toList args.toList ds p := hA0
  rw [Tryd.params3] at hA hval
  obtain ⟨v0, vs0, d0, ds0, p0, q0, hargs, rfl, rfl, h0, r0⟩ := trodAll_cons hA
  obtain ⟨v1, vs1, d1, ds1, p1, q1, rfl, rfl, rfl, h1, r1⟩ := trodAll_cons r0
  obtain ⟨v2, vs2, d2, ds2, p2, q2, rfl, rfl, rfl, h2, r2⟩ := trodAll_cons r1
  obtain ⟨rfl, rfl, rfl⟩ := trodAll_nil r2
  obtain rfl : args = #[v0, v1, v2] := by cases args; simp_all
  obtain ⟨T, hT⟩ := open_tabs (show DataW.TrodVars enc Tryd.prog W (fun _ => true) tabNames gs q from hV)
  obtain ⟨bs0, hr0⟩ := open_bytes (hval 0 22 v0 rfl rfl) h0
  obtain ⟨bs1, hr1⟩ := open_bytes (hval 1 22 v1 rfl rfl) h1
  obtain ⟨x2, rfl⟩ := open_b16 (hval 2 23 v2 rfl rfl) h2
  refine (mac_is T bs0 bs1 x2 v0 v1 W hT hr0 hr1).mono fun e W' ⟨he, hb⟩ => ?_
  subst he
  have hgs := tabs_ten (show DataW.TrodVars enc Tryd.prog W (fun _ => true) tabNames gs q from hV)
  exact ⟨_, rfl, post_true laidOut hW' (by kernel_rfl) (by obtain ⟨g1, g2, g3, g4, g5, g6, g7, g8, g9, g10, rfl⟩ := hgs; rfl) (by rw [Tryd.params3]; exact readables (by decide)) rfl Tryd.underlying4 hb⟩

set_option maxHeartbeats 4000000 in
theorem closed : joinedFacts Tryd.pinned.checked.prog 3 Tryd.f3 Rows.fnCMACChainSpec Rows.fnCMACChainRow = true := by
  unfold joinedFacts
  simp only [Bool.and_eq_true]
  repeat' refine And.intro ?_ ?_
  all_goals (as_aux_lemma => kernel_rfl)

/-- ████ THE STATEMENT ████ -/
theorem proved : Rows.FnCMACChainSaid :=
  OpenClaim.holds_of_wide 3 Tryd.f3 rfl rfl rfl rfl rfl rfl rfl ⟨rfl, rfl, rfl, rfl, rfl⟩ rfl rfl rfl rfl rfl (by kernel_rfl) Tryd.func3 closed
    (of_decide_eq_true (by kernel_rfl)) (by unfold Func.isWrapper; first | (rw [if_pos (by decide +kernel)]; kernel_rfl) | (rw [if_neg (by decide +kernel)]; exact ⟨rfl, rfl⟩))
    (fun os started H enc _ => lifted os started H enc)
#print axioms proved
end Go.Proofs.YtfcdldcekdbckaeDoor.fnCMACChain

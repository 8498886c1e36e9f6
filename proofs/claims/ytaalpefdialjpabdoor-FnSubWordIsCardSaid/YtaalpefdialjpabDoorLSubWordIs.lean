/- THE LAW 'FnSubWordIs': for every input the call returns true, the argument and the tables read behind the call as they read before; the tables tied to the program's text. -/
import Derived.Test.YtaalpefdialjpabDoorSw
import Derived.Test.YtaalpefdialjpabDoorCards
import Derived.Test.YtaalpefdialjpabDoorTie
import Derived.WalkKit
import Derived.ChangeVars
import Derived.Stop.LaidErr
namespace Go.Proofs.YtaalpefdialjpabDoor.fnSubWordIs
open Go.ChangeShapes Go.WideShapes Go.ChangeAt Go.RowKit
set_option linter.unusedVariables false
def cellssbox0 : Array Value := (zs0.map fun z => Value.int .u8 z).toArray
set_option maxRecDepth 100000 in
theorem reads_sbox0 {H : Type} (enc : TypeId × Value → H) (W : World) (sp : Nat → Bool) : DataW.trod enc Tryd.prog W 0 sp true 3 26 cellssbox0.toList = some (Rows.laid_loop_example_pub_g03026_pub_aes_sbox0, []) := by kernel_rfl
theorem contract (H : Type) (enc : TypeId × Value → H) (W : World) (base : Nat) (args : Array Value) (ds gs : List (DataW H)) (before : List MemPlace)
    (hval0 : ∀ (j : Nat) t v, Tryd.f3.params[j]? = some t → args[j]? = some v → Value.okWide Tryd.prog W .any base t v)
    (hW : DataW.Whole enc Tryd.prog Tryd.f3.params.toList Rows.fnSubWordIsSpec.vars false W args.toList ds gs before) (hL : laidMetH Tryd.prog Rows.fnSubWordIsRow.laid W) :
    Calls Tryd.prog 3 args W fun e W' => ∃ v, e = .returned v ∧ Rows.fnSubWordIsSpec.post enc Tryd.prog Tryd.f3 false true false false W args v W' := by
  have hW' := hW
  have hval : ∀ (j : Nat) t v, Tryd.f3.params[j]? = some t → args[j]? = some v → Value.okWide Tryd.prog W .any base t v := hval0
  obtain ⟨p, q, hA0, hV0, rfl, hfz, hnd⟩ := hW
  have hA : DataW.TrodAll enc Tryd.prog W 0 (fun _ => true) true Tryd.f3.params.toList args.toList ds p := hA0
  have hV : DataW.TrodVars enc Tryd.prog W (fun _ => true) ["loop.example/pub-g03026/pub/aes.sbox0"] gs q := hV0
  rw [Tryd.params3] at hA hval
  obtain ⟨v0, vs0, d0, ds0, p0, q0, hargs, rfl, rfl, h0, r0⟩ := trodAll_cons hA
  obtain ⟨rfl, rfl, rfl⟩ := trodAll_nil r0
  obtain rfl : args = #[v0] := by cases args; simp_all
  obtain ⟨a0, rfl, rfl, rfl, w0⟩ := open_int Tryd.underlying22 (hval 0 22 v0 rfl rfl) h0
  obtain ⟨x0, rfl⟩ := open_n32 w0
  obtain ⟨g, t, cs, fuel, d, p', rfl, hg, ht, hvar, hd, rfl⟩ := trodVars_one hV
  obtain rfl := Option.some.inj (g0.symm.trans hg)
  obtain rfl := Option.some.inj (g0t.symm.trans ht)
  obtain rfl : cs = cellssbox0 := Option.some.inj (hvar.symm.trans (tab0 hL))
  obtain ⟨rfl, rfl⟩ := DataW.Trod.unique (v := .agg cellssbox0) ⟨fuel, hd⟩ ⟨3, reads_sbox0 enc W _⟩
  have hvars : ∀ (m : Nat) (sp : Nat → Bool), DataW.TrodVars enc Tryd.prog (W.drewN m) sp ["loop.example/pub-g03026/pub/aes.sbox0"] [Rows.laid_loop_example_pub_g03026_pub_aes_sbox0] (MemPlace.row ⟨0, 0, none⟩ cellssbox0.size ++ []) := fun m sp =>
    trodVars_mk1 hg ht hvar (reads_sbox0 enc _ sp)
  refine (subword_is x0 W (tab0 hL)).mono fun e W' ⟨he, m, hw⟩ => ?_
  subst he; subst hw
  exact ⟨_, rfl, post_of_same (pa := []) hW' (fun _ _ _ => trodAll_cons_mk (shut_bool Tryd.underlying4 _) trodAll_mk0) (fun _ _ => trodAll_cons_mk (shut_int Tryd.underlying22 w0) trodAll_mk0) (fun sp _ => hvars m sp) (by simp)
    ((Grown.refl W).frame _) (fun _ => rfl) (ok_one (by kernel_rfl) rfl (okWide_bool_mk Tryd.underlying4 _))⟩
noncomputable def laidWorld (os : Os) : World :=
  { World.holding Tryd.prog os ⟨#[], #[], []⟩ with heap := ((World.holding Tryd.prog os ⟨#[], #[], []⟩).heap.modify 0 fun
      | .cells _ t frozen => .cells cellssbox0 t frozen
      | o => o) }
set_option maxRecDepth 100000 in
theorem laid_met (os : Os) : laidMet Tryd.prog Rows.fnSubWordIsRow.laid ((laidWorld os).forCall (fun _ _ => 0) ⟨#[], #[.int .u32 0], []⟩).memory :=
  laidMet_of_run' 8 (by kernel_rfl) (by kernel_rfl)
set_option maxRecDepth 100000 in
theorem reads (os : Os) {H : Type} (enc : TypeId × Value → H) : ∃ places, DataW.whole enc Tryd.prog ((laidWorld os).forCall (fun _ _ => 0) ⟨#[], #[.int .u32 0], []⟩).memory Tryd.f3.params.toList Rows.fnSubWordIsSpec.vars false #[(.int .u32 0 : Value)].toList 8 = some ([.lit (.int .u32 0)], [Rows.laid_loop_example_pub_g03026_pub_aes_sbox0], places) :=
  ⟨MemPlace.row ⟨0, 0, none⟩ 256, by kernel_rfl⟩
set_option maxRecDepth 100000 in
theorem lifted (os : Os) (started : os.Started) (H : Type) (enc : TypeId × Value → H) (F : Stop.Interp) :
    ReturnsInHanded {} Tryd.checked os 3 .any ((OpenSpec.ofChange Rows.fnSubWordIsSpec).preRow enc Tryd.prog Tryd.f3 Rows.fnSubWordIsRow.domain false Rows.fnSubWordIsRow.laid) (((OpenSpec.ofChange Rows.fnSubWordIsSpec).at F).post enc Tryd.prog Tryd.f3 false true false false) := by
  obtain ⟨places, hx⟩ := reads os enc
  refine returnsInHanded_of_row (C := Tryd.checked) (s := OpenSpec.ofChange Rows.fnSubWordIsSpec) own started (by kernel_rfl) Tryd.func3
    (witness_row_at (enc := enc) (C := Tryd.checked) false (laidWorld os) #[.int .u32 0] rfl (by kernel_rfl) (by kernel_rfl) (by kernel_rfl)
      (OpenSpec.preRow_of_cond 8 hx (by kernel_rfl) (fun k hk => by cases hk) (by kernel_rfl) (laid_met os))) ?_
  intro W base args ds gs before hval hW _ _ _ hL _ _
  exact contract H enc W base args ds gs before hval hW hL
set_option maxRecDepth 100000 in
theorem said : Rows.FnSubWordIsSaid :=
  OpenClaim.holds_of_cond 3 Tryd.f3 rfl rfl rfl rfl rfl rfl rfl ⟨rfl, rfl, rfl, rfl, rfl⟩ rfl rfl rfl rfl rfl (by kernel_rfl) Tryd.func3 (by kernel_rfl)
    (of_decide_eq_true (by kernel_rfl)) (by unfold Func.isWrapper; first | (rw [if_pos (by decide +kernel)]; kernel_rfl) | (rw [if_neg (by decide +kernel)]; exact ⟨rfl, rfl⟩))
    (fun os started H enc _ F => by rw [OpenClaim.pre_eq_preRow]; exact lifted os started H enc F)
theorem plain (f : FuncId) (fn : Func) (hf : Tryd.pinned.checked.prog.funcNamed "loop.example/pub-g03026/laws.FnSubWordIs" = some f) (hfn : Tryd.pinned.checked.prog.funcs[f]? = some fn) :
    false = Tryd.pinned.checked.prog.looks [] ∧ ∀ (j : Nat) t, fn.params[j]? = some t → Tryd.pinned.checked.prog.wantsStandIn t = false := by
  obtain rfl : f = 3 := Option.some.inj ((show Tryd.prog.funcNamed "loop.example/pub-g03026/laws.FnSubWordIs" = some 3 by kernel_rfl).symm.trans hf) |>.symm
  obtain rfl : fn = Tryd.f3 := (Option.some.inj (Tryd.func3.symm.trans hfn)).symm
  refine ⟨by kernel_rfl, fun j t ht => ?_⟩
  rw [Tryd.params3] at ht
  obtain rfl : t = 22 := by simpa using Array.mem_of_getElem? ht
  exact (show Tryd.prog.wantsStandIn 22 = false by kernel_rfl)
/-- THE CARD -/
theorem card : Rows.FnSubWordIsCardSaid :=
  Claim7.holds_tied_plain_at .later [] _ _ _ _ said (fun _ h => by cases h) (by kernel_rfl) (fun _ h => by cases h) fnSubWordIs_row_tie rfl ⟨rfl, rfl⟩ (by kernel_rfl) rfl plain (by kernel_rfl)
#print axioms card
end Go.Proofs.YtaalpefdialjpabDoor.fnSubWordIs

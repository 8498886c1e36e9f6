/- Sixteen bytes moved by a bit to the left, wherever they stand; and what is made of a cipher's block with them. -/
import Derived.Test.YtfcdldcekdbckaeDoorGXor
import Derived.Test.YtfcdldcekdbckaeDoorChn
import Derived.Test.YtfcdldcekdbckaeDoorCtrB
import Derived.Test.YtfcdldcekdbckaeDoorStruct
import Derived.Test.YtfcdldcekdbckaeDoorShlP
import Derived.Deep.DeepCutAuto
namespace Go.Proofs.YtfcdldcekdbckaeDoor
open Go Go.RowKit Gf

@[go_sem] theorem shr8_7 (x : BitVec 8) : n8 x / 128 = n8 (wshr x 7) := shr8 x 7
@[go_sem] theorem shl8_1 (x : BitVec 8) : IntKind.u8.wrap (n8 x * 2) = n8 (wshl x 1) := shl8 x 1
@[go_sem] theorem mul135 (x : BitVec 8) : IntKind.u8.wrap (n8 x * 135) = n8 (wmul x 135#8) := by
  rw [IntKind.wrap_u8]; unfold wmul n8; rw [BitVec.toNat_mul]
  have e : (135#8).toNat = 135 := rfl
  rw [e]; omega
theorem putL_set (cs : Array Value) (o k : Nat) (x : BitVec 128) (b : BitVec 8) (hk : k < 16) (hl : o + 16 ≤ cs.size) : (putL cs o (bytesOf x)).setIfInBounds (o + k) (.int .u8 (n8 b)) = putL cs o (bytesOf (setB x k b)) := by
  apply Array.ext_getElem?
  intro i
  by_cases h : i = o + k
  · subst h
    rw [Array.getElem?_setIfInBounds_self_of_lt (by rw [putL_size]; omega), putL_in _ _ _ k b (by rw [bytesOf_get _ k hk, byte_setB _ _ _ _ hk]; simp) (by rw [bytesOf_length]; exact hl)]
  · rw [Array.getElem?_setIfInBounds_ne (by omega)]
    by_cases hi : i < o ∨ o + 16 ≤ i
    · rw [putL_out _ _ _ _ (by rw [bytesOf_length]; exact hi), putL_out _ _ _ _ (by rw [bytesOf_length]; exact hi)]
    · obtain ⟨j, rfl⟩ : ∃ j, i = o + j := ⟨i - o, by omega⟩
      rw [putL_in _ _ _ j _ (bytesOf_get x j (by omega)) (by rw [bytesOf_length]; exact hl), putL_in _ _ _ j _ (bytesOf_get _ j (by omega)) (by rw [bytesOf_length]; exact hl), byte_setB _ _ _ _ (by omega), if_neg (by omega)]
theorem putL_at (cs : Array Value) (o k : Nat) (x : BitVec 128) (hk : k < 16) (hl : o + 16 ≤ cs.size) : (putL cs o (bytesOf x))[o + k]? = some (.int .u8 (n8 (byte x k))) :=
  putL_in _ _ _ k _ (bytesOf_get x k hk) (by rw [bytesOf_length]; exact hl)

set_option maxHeartbeats 1000000 in
theorem shl_any (x : BitVec 128) (g o : Nat) (cs : Array Value) (t : TypeId) (w : World) (hl : o + 16 ≤ cs.size) (hg : objAt w g = some (.cells (putL cs o (bytesOf x)) t (0, 0))) :
    Calls Tryd.prog 37 #[.pointer (some ⟨g, o, none⟩)] w fun e w' => e = .returned (.int .u8 (n8 (wshr (byte x 0) 7))) ∧ objAt w' g = some (.cells (putL cs o (bytesOf (x <<< 1))) t (0, 0)) ∧ Keeps g w w' := by
  go_enter Tryd.func37, Tryd.ntmps37
  go_wp2
  go_loopw [3, 4] (fun c i wr => ∃ k : Nat, k ≤ 16 ∧ i = .int .i64 ((k : Int) - 1) ∧ c = .int .u8 (n8 (outB x k)) ∧ objAt wr g = some (.cells (putL cs o (bytesOf (rTo x k))) t (0, 0)) ∧ Keeps g w wr) (fun _ i _ => (intOf i + 1).toNat)
  case atStart =>
    exact ⟨16, by omega, rfl, rfl, by rw [rTo_all]; exact hg, Keeps.refl g w⟩
  case round =>
    obtain ⟨k, hk, rfl, rfl, h0, hb⟩ := hrel
    have hB := Lib.hid hb
    clear hb
    cases k with
    | zero =>
      go_wp2
      go_ret
      rw [outB_lt x 0 (by decide)]
      rw [rTo_zero] at h0
      exact ⟨rfl, h0, hB.out⟩
    | succ k =>
      have hk1 : k < 16 := by omega
      have e0 : ((k + 1 : Nat) : Int) - 1 = (k : Int) := by omega
      have e1 : (0 : Int) ≤ (k : Int) := by omega
      have e2 : (k : Int) < 16 := by omega
      have c0 := (objAt_cell h0 (o + k)).trans (putL_at _ _ _ _ hk1 hl)
      rw [byte_rTo x k hk1] at c0
      have f0 := objAt_free h0 (o + k)
      rw [e0]
      go_wp2
      go_region
      go_wp2
      go_roundw
      case rel =>
        have h3 := objAt_set h0 (o + k) (.int .u8 (n8 (wor (wshl (byte x k) 1) (outB x (k + 1)))))
        rw [putL_set _ _ _ _ _ hk1 hl] at h3
        have e : setB (rTo x (k + 1)) k (wor (wshl (byte x k) 1) (outB x (k + 1))) = rTo x k := rTo_succ x k hk1
        rw [e] at h3
        refine ⟨k, by omega, by go_num, by rw [outB_lt x k hk1]; rfl, oa_drew h3, ?_⟩
        exact (hB.out.set (o + k) _).drew
      case measure => simp [intOf]

/-- A store's run given. -/
theorem wpList_set {P : Program} {w w' : World} {ops : Array Oper} {rest : List Oper} {o : Oper} {a : Act} {Q : Exit → Act → World → Prop} (hg : o.guard = none) (hrun : (execOp a.eval o).run P w = .ok .skip w') (hK : wpList P ops Q rest (a.put o.dst undef) w') : wpList P ops Q (o :: rest) a w := by
  refine wpList_plain hg fun K hK' => ?_
  unfold Oper.wp
  rw [hrun]
  exact hK' _ _ hK
/-! ### Sixteen bytes read and written inside a block -/
theorem add_mid0 (g o j : Nat) : (⟨g, o, none⟩ : Addr).add j = ⟨g, o + j, none⟩ := by unfold Addr.add; split <;> simp_all
theorem rd16_at {M o : Nat} {x : BitVec 128} {cs : Array Value} {t : TypeId} {fr : Nat × Nat} {w : World} (h : objAt w M = some (.cells cs t fr)) (hb : BytesIn cs o (bytesOf x)) : (loadCellsFrom ⟨M, o, none⟩ 0 16 #[]).run Tryd.prog w = .ok (blk x) w := by
  have hl : (bcells (bytesOf x)).length = 16 := by rw [bcells_length, bytesOf_length]
  have := run_loadCells_list (P := Tryd.prog) w ⟨M, o, none⟩ (bcells (bytesOf x)) (fun j v hv => by
    rw [bcells_get] at hv
    obtain ⟨y, hy, rfl⟩ := Option.map_eq_some_iff.1 hv
    rw [add_mid0]
    exact (objAt_cell h _).trans (hb j y hy))
  rw [hl] at this
  rw [blk_bcells]
  simpa [loadCells] using this
theorem wr16_at {M o : Nat} {y : BitVec 128} {cs : Array Value} {t : TypeId} {w : World} (h : objAt w M = some (.cells cs t (0, 0))) (hl : o + 16 ≤ cs.size) : (storeCells ⟨M, o, none⟩ (blk y).toList 0).run Tryd.prog w = .ok () (w.setRow M (putL cs o (bytesOf y))) := by
  have e : (blk y).toList = bcells (bytesOf y) := by rw [blk_bcells]
  have hlen : (bcells (bytesOf y)).length = 16 := by rw [bcells_length, bytesOf_length]
  rw [e, run_storeCells_at _ M o t _ 0 cs w h (by rw [hlen]; omega) (bcells_one _)]
  rw [Nat.add_zero, putV_eq _ _ _ (by rw [hlen]; exact hl)]
  rfl

/-- The reads and writes that the walk meets, behind names: so that they are not taken apart cell by cell. -/
def ldX (P : Program) (g o : Nat) (w : World) : Result (Array Value) := (loadCellsFrom ⟨g, o, none⟩ 0 16 #[]).run P w
def stX (P : Program) (g o : Nat) (y : BitVec 128) (w : World) : Result Unit := (storeCells ⟨g, o, none⟩ (blk y).toList 0).run P w
theorem ld121 (P : Program) (g : Nat) (w : World) : (loadCellsFrom ⟨g, 121, none⟩ 0 16 #[]).run P w = ldX P g 121 w := rfl
theorem st137 (P : Program) (g : Nat) (y : BitVec 128) (w : World) : (storeCells ⟨g, 137, none⟩ (blk y).toList 0).run P w = stX P g 137 y w := rfl
attribute [go_sem ↓] ld121 st137

set_option maxRecDepth 100000 in
set_option maxHeartbeats 400000 in
theorem derive_any (T : Tab) (ks : List (BitVec 8)) (M : Nat) (cs : Array Value) (tM : TypeId) (w : World) (hC : CiphAt T ks w M) (hM : objAt w M = some (.cells cs tM (0, 0))) (hz : BytesIn cs 121 (bytesOf 0#128)) (h2 : ByteRoom cs 137 16) :
    Calls Tryd.prog 25 #[.pointer (some ⟨M, 0, none⟩)] w
      fun e w' => e = .returned (.tuple #[]) ∧ (∃ x, objAt w' M = some (.cells (putL (putL cs 121 (bytesOf (k1Of (ciph T ks)))) 137 (bytesOf x)) tM (0, 0))) ∧ Keeps M w w' := by
  have hs : 137 + 16 ≤ cs.size := h2.le (by decide)
  have hs1 : 121 + 16 ≤ cs.size := by omega
  have hr1 : ByteRoom cs 121 16 := by have := hz.room; rwa [bytesOf_length] at this
  have g0 := Lib.hid (fun m => cEncI_any M 121 16 16 M 121 16 16 cs tM 0#128 (w.drewN m) (hC.drewN m) (oa_drewN hM m) hr1 (by decide) (by decide) (by decide) (by decide) (rdL_obj (oa_drewN hM m) hz) (by decide) (by decide))
  clear hC hM hz h2 hr1
  generalize ciph T ks = E at g0 ⊢
  generalize hz : E 0#128 = z at g0
  have HZ := Lib.hid hz
  clear hz
  go_enter Tryd.func25, Tryd.ntmps25
  go_wp2_with (fail)
  refine wp_region_chain (l := [_, _, _, _, _, _, _, _, _, _, _, _]) (fun _ => True) (fun w' => ∃ m, w' = w.drewN m) (by kernel_rfl) (by kernel_rfl) ⟨1, rfl⟩ (fun _ _ => trivial) ?_
  iterate 11 (refine chain_val (v := ?_) (by rfl) ?_ ?_; rotate_left; (focus (intro w2 b2; (try obtain ⟨m2, rfl⟩ := b2); go_simp; (try with_reducible rfl); done)); simp only [Act.put, List.setIfInBounds_toArray, List.set_cons_zero, List.set_cons_succ])
  refine chain_call (fun w' => objAt w' M = some (.cells (putL cs 121 (bytesOf (z))) tM (0, 0)) ∧ Keeps M w w') (v := .tuple #[]) (f := 26) (args := #[.pointer (some ⟨M, 0, none⟩), .slice (some ⟨M, 121, none⟩) 16 16, .slice (some ⟨M, 121, none⟩) 16 16]) rfl (by rfl) (fun _ _ => trivial) (fun w2 b2 => (by go_simp; done))
    (fun w2 b2 => (by
      obtain ⟨m2, rfl⟩ := b2
      refine (g0.out m2).mono fun e w' he => ?_
      obtain ⟨he, ho, hk⟩ := he
      exact ⟨he, ho, (keeps_drewN (Keeps.refl M w) m2).trans hk⟩)) ?_
  simp only [Act.put, List.setIfInBounds_toArray, List.set_cons_zero, List.set_cons_succ]
  refine chain_nil fun w1 b1 => ?_
  obtain ⟨ho1, hk1⟩ := b1
  have g1 := shl_any (z) M 121 cs tM w1 hs1 ho1
  have HK1 := Lib.hid hk1
  clear ho1 hk1 g0
  go_wp2_with (go_at_call 37; (with_reducible refine g1.mono ?_); rintro e w2 ⟨rfl, ho2, hk2⟩; have HO2 := Lib.hid ho2; have HK2 := Lib.hid hk2; clear ho2 hk2)
  have c2 := (objAt_cell HO2.out 136).trans (putL_at cs 121 15 _ (by decide) hs1)
  have f2 := objAt_free HO2.out 136
  refine wp_region_still_tail 11 (by kernel_rfl) (by kernel_rfl) ?_
  change wpStill _ _ (World.drew _) (fun a' => wpList _ _ _ _ a' (World.drew _)) _ _
  simp only [List.take_succ_cons, List.take_zero, List.drop_succ_cons, List.drop_zero]
  repeat still_step
  refine wpStill_nil ?_
  refine wpList_set rfl (w' := (w2.setCell ⟨M, 136, none⟩ (.int .u8 (n8 (wxor (byte (z <<< 1) 15) (wmul (wshr (byte (z) 0) 7) 135#8))))).drew) (by go_simp; done) ?_
  have ho3 := objAt_set HO2.out 136 (.int .u8 (n8 (wxor (byte (z <<< 1) 15) (wmul (wshr (byte (z) 0) 7) 135#8))))
  rw [putL_set cs 121 15 _ _ (by decide) hs1] at ho3
  replace ho3 := oa_drew ho3
  rw [show setB (z <<< 1) 15 (wxor (byte (z <<< 1) 15) (wmul (wshr (byte z 0) 7) 135#8)) = k1Of E by unfold k1Of; rw [HZ.out]] at ho3
  have hk3 := ((HK1.out.trans HK2.out).set 136 (.int .u8 (n8 (wxor (byte (z <<< 1) 15) (wmul (wshr (byte (z) 0) 7) 135#8))))).drew
  clear c2 f2 g1 HO2 HK1 HK2
  generalize (w2.setCell ⟨M, 136, none⟩ (.int .u8 (n8 (wxor (byte (z <<< 1) 15) (wmul (wshr (byte (z) 0) 7) 135#8))))).drew = w3 at ho3 hk3 ⊢
  clear HZ
  generalize hkv : k1Of E = k1 at ho3
  have HKV := Lib.hid hkv
  clear hkv
  refine wpList_nil ?_
  have hld : ldX Tryd.prog M 121 w3 = _ := rd16_at ho3 (BytesIn.put (by rw [bytesOf_length]; exact hs1))
  have hst : stX Tryd.prog M 137 k1 w3 = _ := wr16_at (o := 137) (y := k1) ho3 (by rw [putL_size]; exact hs)
  have ho4 := objAt_setRow_same ho3 (putL (putL cs 121 (bytesOf k1)) 137 (bytesOf k1))
  have hk4 : Keeps M w (w3.setRow M (putL (putL cs 121 (bytesOf k1)) 137 (bytesOf k1))) := hk3.row _
  have hs2 : 137 + 16 ≤ (putL cs 121 (bytesOf k1)).size := by rw [putL_size]; exact hs
  have g4 := shl_any k1 M 137 _ tM _ hs2 ho4
  have HK4 := Lib.hid hk4
  clear ho3 hk3 ho4 hk4
  rename_i hKK
  refine hKK _ _ ?_
  clear hKK
  go_upto_if 34 with (fail)
  with_reducible refine g4.mono ?_
  rintro e w5 ⟨rfl, ho5, hk5⟩
  have HO5 := Lib.hid ho5
  have HK5 := Lib.hid hk5
  clear ho5 hk5
  clear g4 hld hst
  go_wp2_with (fail)
  have c5 := (objAt_cell HO5.out 152).trans (putL_at _ 137 15 _ (by decide) hs2)
  have f5 := objAt_free HO5.out 152
  refine wp_region_still_tail 11 (by kernel_rfl) (by kernel_rfl) ?_
  change wpStill _ _ (World.drew _) (fun a' => wpList _ _ _ _ a' (World.drew _)) _ _
  simp only [List.take_succ_cons, List.take_zero, List.drop_succ_cons, List.drop_zero]
  repeat still_step
  refine wpStill_nil ?_
  have ho6 := objAt_set HO5.out 152 (.int .u8 (n8 (wxor (byte (k1 <<< 1) 15) (wmul (wshr (byte k1 0) 7) 135#8))))
  rw [putL_set _ 137 15 _ _ (by decide) hs2] at ho6
  have HO6 := Lib.hid ho6
  clear ho6
  go_wp2
  refine bodyPost_end (v := .tuple #[]) (by simp [results, Tryd.results25, go_sem]) rfl ⟨rfl, ⟨_, (by rw [HKV.out]; exact oa_drew HO6.out)⟩, ((HK4.out.trans HK5.out).set _ _).drew⟩
end Go.Proofs.YtfcdldcekdbckaeDoor

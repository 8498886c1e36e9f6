/- A chain's block is made; and a row is sent through it. -/
import Derived.Test.YtfcdldcekdbckaeDoorCbc
namespace Go.Proofs.YtfcdldcekdbckaeDoor
open Go Go.RowKit Gf

/-- A chain's block: the cipher's words and the block that it begins with. -/
def cbcC (r : Nat) (K D : Nat → BitVec 32) (x : BitVec 128) : Array Value := kbl r K D ++ blk x
@[go_sem] theorem cbcC_size (r : Nat) (K D : Nat → BitVec 32) (x : BitVec 128) : (cbcC r K D x).size = 137 := by simp [cbcC, kbl_size, blk_size]
theorem cbcC_key (r : Nat) (K D : Nat → BitVec 32) (x : BitVec 128) : KeyC (cbcC r K D x) r K := by
  have e : ∀ i, i < 121 → (cbcC r K D x)[i]? = (kbl r K D)[i]? := fun i hi => by
    unfold cbcC
    rw [Array.getElem?_append_left (by rw [kbl_size]; exact hi)]
  exact ⟨by rw [e _ (by decide)]; rfl, fun i hi => by rw [e _ (by omega)]; exact kbl_k _ _ _ _ hi⟩
theorem cbcC_iv (r : Nat) (K D : Nat → BitVec 32) (x : BitVec 128) : BytesIn (cbcC r K D x) 121 (bytesOf x) := fun i y hy => by
  unfold cbcC
  rw [Array.getElem?_append_right (by rw [kbl_size]; omega), kbl_size, Nat.add_sub_cancel_left, blk_bcells, tA, bcells_get, hy]
  rfl
theorem built_cbc (r : Nat) (K D : Nat → BitVec 32) (x : BitVec 128) (w : World) : (Instr.build 63 #[(0, .agg (kbl r K D)), (1, .agg (blk x))]).run Tryd.prog w = .ok (.agg (cbcC r K D x)) w :=
  run_build w _ _ _ (by kernel_rfl)

set_option maxRecDepth 100000 in
set_option maxHeartbeats 1000000 in
theorem newCbc_any (B r : Nat) (K D : Nat → BitVec 32) (tB : TypeId) (x : BitVec 128) (w : World) (hB : objAt w B = some (.cells (kbl r K D) tB (0, 0))) :
    Calls Tryd.prog 16 #[.pointer (some ⟨B, 0, none⟩), .agg (blk x)] w fun e w' => ∃ C, e = .returned (.pointer (some ⟨C, 0, none⟩)) ∧ w.heap.size ≤ C ∧ objAt w' C = some (.cells (cbcC r K D x) 63 (0, 0)) ∧ Below w.heap.size w w' := by
  obtain ⟨N, hN⟩ : ∃ N, N = w.heap.size := ⟨_, rfl⟩
  have b1 : Below w.heap.size w (w.alloc (.cells (blk x) 23)) := (Below.refl _ _).alloc (Nat.le_refl _) _
  have o1 : objAt (w.alloc (.cells (blk x) 23)) N = some (.cells (blk x) 23 (0, 0)) := by rw [hN]; exact objAt_alloc_at _ _ _ rfl
  have hB1 := oa_below hB b1 (oa_lt hB)
  have hsz : (w.alloc (.cells (blk x) 23)).heap.size = N + 1 := by rw [hN]; simp
  have hbu := fun w => built_cbc r K D x w
  have HBU := Lib.hid hbu
  have HB := Lib.hid hB1
  have HO := Lib.hid o1
  have HBB := Lib.hid b1
  have HSZ := Lib.hid hsz
  have HN := Lib.hid hN
  clear hbu hB1 o1 b1 hB hsz
  go_enter Tryd.func16, Tryd.ntmps16
  go_wp2_with (fail)
  rw [← hN]
  clear hN
  generalize w.alloc (.cells (blk x) 23) = w1 at *
  refine wp_region_chain (l := [_, _, _, _, _, _, _]) (fun w' => objAt w' B = some (.cells (kbl r K D) tB (0, 0)) ∧ objAt w' N = some (.cells (blk x) 23 (0, 0))) (fun w' => ∃ m, w' = w1.drewN m) (by kernel_rfl) (by kernel_rfl) ⟨1, rfl⟩ (fun w2 b2 => (by obtain ⟨m2, rfl⟩ := b2; exact ⟨oa_drewN HB.out m2, oa_drewN HO.out m2⟩)) ?_
  iterate 2 (refine chain_val (v := ?_) (by rfl) ?_ ?_; rotate_left; (focus (intro w2 b2; (try obtain ⟨m2, rfl⟩ := b2); go_simp; (try with_reducible rfl); done)); simp only [Act.put, List.setIfInBounds_toArray, List.set_cons_zero, List.set_cons_succ])
  refine chain_val (v := .agg (kbl r K D)) (by rfl) (fun w2 b2 => (by obtain ⟨hq, _⟩ := b2; go_simp; done)) ?_
  simp only [Act.put, List.setIfInBounds_toArray, List.set_cons_zero, List.set_cons_succ]
  refine chain_val (v := .agg (blk x)) (by rfl) (fun w2 b2 => (by obtain ⟨_, hq⟩ := b2; go_simp; done)) ?_
  simp only [Act.put, List.setIfInBounds_toArray, List.set_cons_zero, List.set_cons_succ]
  refine chain_val (v := .agg (cbcC r K D x)) (by rfl) (fun w2 _ => exec_build _ _ rfl _ (by simp [Act.eval]) (HBU.out w2)) ?_
  simp only [Act.put, List.setIfInBounds_toArray, List.set_cons_zero, List.set_cons_succ]
  refine chain_move (v := .pointer (some ⟨N + 1, 0, none⟩)) (fun w' => ∃ m, w' = (w1.alloc (.cells (cbcC r K D x) 63)).drewN m) (fun w' => w'.alloc (.cells (cbcC r K D x) 63)) rfl (by rfl) (fun w2 b2 => (by obtain ⟨m2, rfl⟩ := b2; exact ⟨oa_drewN (oa_alloc HB.out _) m2, oa_drewN (oa_alloc HO.out _) m2⟩))
    (fun w2 b2 => (by obtain ⟨m2, rfl⟩ := b2; have hq := HSZ.out; go_simp; done)) (fun w2 b2 => (by obtain ⟨m2, rfl⟩ := b2; exact ⟨m2, rfl⟩)) ?_
  simp only [Act.put, List.setIfInBounds_toArray, List.set_cons_zero, List.set_cons_succ]
  (refine chain_val (v := ?_) (by rfl) ?_ ?_; rotate_left; (focus (intro w2 b2; (try obtain ⟨m2, rfl⟩ := b2); go_simp; (try with_reducible rfl); done)); simp only [Act.put, List.setIfInBounds_toArray, List.set_cons_zero, List.set_cons_succ])
  refine chain_nil fun w2 b2 => ?_
  obtain ⟨m2, rfl⟩ := b2
  have HX := Lib.hid (objAt_alloc_at w1 (.cells (cbcC r K D x) 63) (N + 1) HSZ.out.symm)
  have hb2 : Below w.heap.size w (w1.alloc (.cells (cbcC r K D x) 63)) := HBB.out.alloc HBB.out.size _
  have HB2 := Lib.hid hb2
  clear hb2
  go_wp2_with (fail)
  go_ret
  exact ⟨N + 1, rfl, by rw [HN.out]; omega, oa_drewN HX.out m2, bel_drewN HB2.out m2⟩

set_option maxRecDepth 100000 in
set_option maxHeartbeats 1000000 in
theorem cbcE_any (T : Tab) (ks bs zs : List (BitVec 8)) (C D S o sc n : Nat) (cs : Array Value) (tC tD : TypeId) (w : World) (hC : CiphAt T ks w C) (hM : objAt w C = some (.cells cs tC (0, 0))) (h0 : BytesIn cs 121 (bytesOf 0#128)) (hD : objAt w D = some (.cells (bcells zs).toArray tD (0, 0)))
    (hz : zs.length = bs.length) (hS : RdL w S o bs) (hSD : S ≠ D) (hCD : C ≠ D) (hG : nG ≤ D) (hn : 1 ≤ n) (hbs : bs.length = 16 * n) (hsc : bs.length ≤ sc) (hsc2 : (sc : Int) ≤ 9223372036854775807) :
    Calls Tryd.prog 24 #[.pointer (some ⟨C, 0, none⟩), .pointer (some ⟨C, 121, none⟩), .slice (some ⟨D, 0, none⟩) bs.length bs.length, .slice (some ⟨S, o, none⟩) bs.length sc] w
      fun e w' => e = .returned (.tuple #[]) ∧ objAt w' D = some (.cells (bcells (chnL (ciph T ks) bs n)).toArray tD (0, 0)) ∧ ∀ n0, n0 ≤ C → n0 ≤ D → Below n0 w w' := by
  have g := cbcG_any T ks bs zs C D S o sc n cs tC tD w hC hM h0 hD hz hS hSD hCD hG hn hbs hsc hsc2
  clear hC hM h0 hD hz hS hbs
  generalize chnL (ciph T ks) bs n = l at *
  go_enter Tryd.func24, Tryd.ntmps24
  go_wp2_with (go_at_call 36; (with_reducible refine g.mono ?_); rintro e w1 ⟨rfl, ho, hk⟩; have HO := Lib.hid ho; have HK := Lib.hid hk; clear ho hk)
  exact bodyPost_end (v := .tuple #[]) (by simp [results, Tryd.results24, go_sem]) rfl ⟨rfl, HO.out, HK.out⟩

/-- What a chain leaves behind. -/
def CbcP (E : BitVec 128 → BitVec 128) (bs : List (BitVec 8)) (n C D : Nat) (tD : TypeId) (w w' : World) : Prop :=
  objAt w' D = some (.cells (bcells (chnL E bs n)).toArray tD (0, 0)) ∧ ∀ n0, n0 ≤ C → n0 ≤ D → Below n0 w w'
set_option maxRecDepth 100000 in
set_option maxHeartbeats 1000000 in
theorem crypt_any (T : Tab) (ks bs zs : List (BitVec 8)) (C D S o sc n : Nat) (cs : Array Value) (tC tD : TypeId) (w : World) (hC : CiphAt T ks w C) (hM : objAt w C = some (.cells cs tC (0, 0))) (h0 : BytesIn cs 121 (bytesOf 0#128)) (hD : objAt w D = some (.cells (bcells zs).toArray tD (0, 0)))
    (hz : zs.length = bs.length) (hS : RdL w S o bs) (hSD : S ≠ D) (hCD : C ≠ D) (hG : nG ≤ D) (hn : 1 ≤ n) (hbs : bs.length = 16 * n) (hsc : bs.length ≤ sc) (hsc2 : (sc : Int) ≤ 9223372036854775807) :
    Calls Tryd.prog 17 #[.pointer (some ⟨C, 0, none⟩), .slice (some ⟨D, 0, none⟩) bs.length bs.length, .slice (some ⟨S, o, none⟩) bs.length sc] w
      fun e w' => e = .returned (.tuple #[]) ∧ CbcP (ciph T ks) bs n C D tD w w' := by
  have g := Lib.hid (fun m => cbcE_any T ks bs zs C D S o sc n cs tC tD (w.drewN m) (hC.drewN m) (oa_drewN hM m) h0 (oa_drewN hD m) hz hS hSD hCD hG hn hbs hsc hsc2)
  have hl0 : ((bs.length : Int) == 0) = false := by simp; intro h; subst h; simp at hbs; omega
  have htm : (bs.length : Int).tmod 16 = 0 := by rw [hbs, Int.tmod_eq_emod_of_nonneg (by omega)]; omega
  clear hC hM h0 hD hz hS hbs
  generalize ciph T ks = E at *
  go_enter Tryd.func17, Tryd.ntmps17
  go_wp2_with (fail)
  refine wp_region_chain (l := [_, _, _, _, _, _, _, _, _]) (fun _ => True) (fun w' => ∃ m, w' = w.drewN m) (by kernel_rfl) (by kernel_rfl) ⟨1, rfl⟩ (fun _ _ => trivial) ?_
  iterate 8 (refine chain_val (v := ?_) (by rfl) ?_ ?_; rotate_left; (focus (intro w2 b2; (try obtain ⟨m2, rfl⟩ := b2); go_simp; (try with_reducible rfl); done)); simp only [Act.put, List.setIfInBounds_toArray, List.set_cons_zero, List.set_cons_succ])
  refine chain_call (fun w' => CbcP E bs n C D tD w w') (v := .tuple #[]) (f := 24) (args := #[.pointer (some ⟨C, 0, none⟩), .pointer (some ⟨C, 121, none⟩), .slice (some ⟨D, 0, none⟩) bs.length bs.length, .slice (some ⟨S, o, none⟩) bs.length sc]) rfl (by rfl) (fun _ _ => trivial) (fun w2 b2 => (by go_simp; done))
    (fun w2 b2 => (by
      obtain ⟨m2, rfl⟩ := b2
      refine (g.out m2).mono fun e w' he => ?_
      obtain ⟨he, ho, hk⟩ := he
      exact ⟨he, ho, fun n0 h1 h2 => ((bel_drewN (Below.refl n0 w) m2).trans (hk n0 h1 h2))⟩)) ?_
  simp only [Act.put, List.setIfInBounds_toArray, List.set_cons_zero, List.set_cons_succ]
  refine chain_nil fun w3 b3 => ?_
  have HP := Lib.hid b3
  clear b3
  go_wp2_with (fail)
  exact bodyPost_end (v := .tuple #[]) (by simp [results, Tryd.results17, go_sem]) rfl ⟨rfl, HP.out⟩
end Go.Proofs.YtfcdldcekdbckaeDoor

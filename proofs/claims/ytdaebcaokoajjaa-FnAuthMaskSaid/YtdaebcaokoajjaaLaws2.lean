/- More laws of the product: no divisors of zero, squares, the state that takes up a block. -/
import Derived.Test.YtdaebcaokoajjaaProd
import Derived.Test.YtdaebcaokoajjaaOpen
namespace Go.Proofs.Ytdaebcaokoajjaa
open Go Go.RowKit Gf

set_option maxHeartbeats 2000000 in
theorem nodiv_is (x y : BitVec 128) (w : World) :
    Calls Try.prog 8 #[.agg (blk x), .agg (blk y)] w fun e w' => e = .returned (.bool true) ∧ Below w.heap.size w w' := by
  have q0 : objAt (((w.alloc (.cells (blk x) 27)).alloc (.cells (blk y) 27)).alloc (.cells (blk 0#128) 27)) w.heap.size = some (.cells (blk x) 27 (0, 0)) := by simp [go_sem]
  have q1 : objAt (((w.alloc (.cells (blk x) 27)).alloc (.cells (blk y) 27)).alloc (.cells (blk 0#128) 27)) (w.heap.size + 1) = some (.cells (blk y) 27 (0, 0)) := by simp [go_sem]
  have q2 : objAt (((w.alloc (.cells (blk x) 27)).alloc (.cells (blk y) 27)).alloc (.cells (blk 0#128) 27)) (w.heap.size + 1 + 1) = some (.cells (blk 0#128) 27 (0, 0)) := by simp [go_sem]
  have b0 : Below w.heap.size w (((w.alloc (.cells (blk x) 27)).alloc (.cells (blk y) 27)).alloc (.cells (blk 0#128) 27)) := by go_grown
  have z0 : weq (0#128) (0#128) = true := weq_self _
  by_cases hx : x = 0#128
  · have t0 : weq x 0#128 = true := by rw [hx]; exact weq_self _
    have t1 : weq (gmul x y) 0#128 = true := by rw [hx, gmul_zero_left]; exact weq_self _
    clear hx
    go_enter Try.func8, Try.ntmps8
    go_wp2
    refine wp_region_uni (fun w' => objAt w' w.heap.size = some (.cells (blk x) 27 (0, 0)) ∧ objAt w' (w.heap.size + 1) = some (.cells (blk y) 27 (0, 0)) ∧ objAt w' (w.heap.size + 1 + 1) = some (.cells (blk 0#128) 27 (0, 0)) ∧ Hid (Below w.heap.size w w')) (by kernel_rfl) (by kernel_rfl) ?_ ?_
    · exact ⟨oa_drew q0, oa_drew q1, oa_drew q2, start0 b0⟩
    iterate 15 (first | (refine uni_no (by rfl) ?_; simp only [Act.put, List.setIfInBounds_toArray, List.set_cons_zero, List.set_cons_succ]) | (refine uni_val (v := ?_) (by rfl) ?_ ?_; rotate_left; (focus (intro w hS; (try dsimp only at hS); go_simp; (try with_reducible rfl); done)); simp only [Act.put, List.setIfInBounds_toArray, List.set_cons_zero, List.set_cons_succ]) | (refine uni_callB (by rfl) (iprod_any x y) (fun _ _ hS hb => held3 hb hS) ?_ ?_; (focus (intro w hS; (try dsimp only at hS); go_simp; done)); simp only [Act.put, List.setIfInBounds_toArray, List.set_cons_zero, List.set_cons_succ]))
    refine uni_nil fun w1 hS => ?_
    go_wp2
    go_ret
    exact ⟨rfl, hS.2.2.2.out⟩
  · by_cases hy : y = 0#128
    · have t0 : weq x 0#128 = false := weq_ne hx
      have t2 : weq y 0#128 = true := by rw [hy]; exact weq_self _
      have t1 : weq (gmul x y) 0#128 = true := by rw [hy, gmul_zero_right]; exact weq_self _
      clear hx hy
      go_enter Try.func8, Try.ntmps8
      go_wp2
      refine wp_region_uni (fun w' => objAt w' w.heap.size = some (.cells (blk x) 27 (0, 0)) ∧ objAt w' (w.heap.size + 1) = some (.cells (blk y) 27 (0, 0)) ∧ objAt w' (w.heap.size + 1 + 1) = some (.cells (blk 0#128) 27 (0, 0)) ∧ Hid (Below w.heap.size w w')) (by kernel_rfl) (by kernel_rfl) ?_ ?_
      · exact ⟨oa_drew q0, oa_drew q1, oa_drew q2, start0 b0⟩
      iterate 15 (first | (refine uni_no (by rfl) ?_; simp only [Act.put, List.setIfInBounds_toArray, List.set_cons_zero, List.set_cons_succ]) | (refine uni_val (v := ?_) (by rfl) ?_ ?_; rotate_left; (focus (intro w hS; (try dsimp only at hS); go_simp; (try with_reducible rfl); done)); simp only [Act.put, List.setIfInBounds_toArray, List.set_cons_zero, List.set_cons_succ]) | (refine uni_callB (by rfl) (iprod_any x y) (fun _ _ hS hb => held3 hb hS) ?_ ?_; (focus (intro w hS; (try dsimp only at hS); go_simp; done)); simp only [Act.put, List.setIfInBounds_toArray, List.set_cons_zero, List.set_cons_succ]))
      refine uni_nil fun w1 hS => ?_
      go_wp2
      go_ret
      exact ⟨rfl, hS.2.2.2.out⟩
    · have t0 : weq x 0#128 = false := weq_ne hx
      have t2 : weq y 0#128 = false := weq_ne hy
      have t1 : weq (gmul x y) 0#128 = false := weq_ne (fun h => (gmul_eq_zero x y h).elim hx hy)
      clear hx hy
      go_enter Try.func8, Try.ntmps8
      go_wp2
      refine wp_region_uni (fun w' => objAt w' w.heap.size = some (.cells (blk x) 27 (0, 0)) ∧ objAt w' (w.heap.size + 1) = some (.cells (blk y) 27 (0, 0)) ∧ objAt w' (w.heap.size + 1 + 1) = some (.cells (blk 0#128) 27 (0, 0)) ∧ Hid (Below w.heap.size w w')) (by kernel_rfl) (by kernel_rfl) ?_ ?_
      · exact ⟨oa_drew q0, oa_drew q1, oa_drew q2, start0 b0⟩
      iterate 15 (first | (refine uni_no (by rfl) ?_; simp only [Act.put, List.setIfInBounds_toArray, List.set_cons_zero, List.set_cons_succ]) | (refine uni_val (v := ?_) (by rfl) ?_ ?_; rotate_left; (focus (intro w hS; (try dsimp only at hS); go_simp; (try with_reducible rfl); done)); simp only [Act.put, List.setIfInBounds_toArray, List.set_cons_zero, List.set_cons_succ]) | (refine uni_callB (by rfl) (iprod_any x y) (fun _ _ hS hb => held3 hb hS) ?_ ?_; (focus (intro w hS; (try dsimp only at hS); go_simp; done)); simp only [Act.put, List.setIfInBounds_toArray, List.set_cons_zero, List.set_cons_succ]))
      refine uni_nil fun w1 hS => ?_
      go_wp2
      go_ret
      exact ⟨rfl, hS.2.2.2.out⟩

set_option maxHeartbeats 2000000 in
theorem sq_is (x y : BitVec 128) (w : World) :
    Calls Try.prog 11 #[.agg (blk x), .agg (blk y)] w fun e w' => e = .returned (.bool true) ∧ Below w.heap.size w w' := by
  have t0 : weq (gmul (x ^^^ y) (x ^^^ y)) (gmul x x ^^^ gmul y y) = true := by
    have h := sq_xor x y
    unfold sq at h
    rw [h]; exact weq_self _
  have t1 : weq (gmul e0 e0) e0 = true := by rw [gmul_one_left]; exact weq_self _
  have q0 : objAt ((w.alloc (.cells (blk x) 27)).alloc (.cells (blk y) 27)) w.heap.size = some (.cells (blk x) 27 (0, 0)) := by simp [go_sem]
  have q1 : objAt ((w.alloc (.cells (blk x) 27)).alloc (.cells (blk y) 27)) (w.heap.size + 1) = some (.cells (blk y) 27 (0, 0)) := by simp [go_sem]
  have b0 : Below w.heap.size w ((w.alloc (.cells (blk x) 27)).alloc (.cells (blk y) 27)) := by go_grown
  go_enter Try.func11, Try.ntmps11
  go_wp2_with (go_at_call 27; (with_reducible refine (lxor_any _ _ _).mono ?_); rintro e w1 ⟨rfl, hb1⟩; have z1 := hb1.size; simp at z1; have p0 := oa_alloc (oa_below q0 hb1 (by first | (simp; done) | (simp; omega))) (.cells (blk (x ^^^ y)) 27); have p1 := oa_alloc (oa_below q1 hb1 (by first | (simp; done) | (simp; omega))) (.cells (blk (x ^^^ y)) 27); have p2 := objAt_alloc_at w1 (.cells (blk (x ^^^ y)) 27) _ rfl; have hB := Lib.hid hb1; clear hb1)
  have b1 : Below w.heap.size w (w1.alloc (.cells (blk (x ^^^ y)) 27)) := (b0.trans (hB.out.mono (by simp; omega))).alloc (by omega) _
  clear b0 q0 q1
  refine wp_region_uni (fun w' => objAt w' w.heap.size = some (.cells (blk x) 27 (0, 0)) ∧ objAt w' (w.heap.size + 1) = some (.cells (blk y) 27 (0, 0)) ∧ objAt w' w1.heap.size = some (.cells (blk (x ^^^ y)) 27 (0, 0)) ∧ Hid (Below w.heap.size w w')) (by kernel_rfl) (by kernel_rfl) ?_ ?_
  · exact ⟨oa_drew p0, oa_drew p1, oa_drew p2, start0 b1⟩
  iterate 19 (first | (refine uni_no (by rfl) ?_; simp only [Act.put, List.setIfInBounds_toArray, List.set_cons_zero, List.set_cons_succ]) | (refine uni_val (v := ?_) (by rfl) ?_ ?_; rotate_left; (focus (intro w hS; (try dsimp only at hS); go_simp; (try with_reducible rfl); done)); simp only [Act.put, List.setIfInBounds_toArray, List.set_cons_zero, List.set_cons_succ]) | (refine uni_callB (by rfl) (iprod_any (x ^^^ y) (x ^^^ y)) (fun _ _ hS hb => held3 hb hS) ?_ ?_; (focus (intro w hS; (try dsimp only at hS); go_simp; done)); simp only [Act.put, List.setIfInBounds_toArray, List.set_cons_zero, List.set_cons_succ]) | (refine uni_callB (by rfl) (iprod_any x x) (fun _ _ hS hb => held3 hb hS) ?_ ?_; (focus (intro w hS; (try dsimp only at hS); go_simp; done)); simp only [Act.put, List.setIfInBounds_toArray, List.set_cons_zero, List.set_cons_succ]) | (refine uni_callB (by rfl) (iprod_any y y) (fun _ _ hS hb => held3 hb hS) ?_ ?_; (focus (intro w hS; (try dsimp only at hS); go_simp; done)); simp only [Act.put, List.setIfInBounds_toArray, List.set_cons_zero, List.set_cons_succ]) | (refine uni_callB (by rfl) (lxor_any (gmul x x) (gmul y y)) (fun _ _ hS hb => held3 hb hS) ?_ ?_; (focus (intro w hS; (try dsimp only at hS); go_simp; done)); simp only [Act.put, List.setIfInBounds_toArray, List.set_cons_zero, List.set_cons_succ]) | (refine uni_callB (by rfl) (iprod_any e0 e0) (fun _ _ hS hb => held3 hb hS) ?_ ?_; (focus (intro w hS; (try dsimp only at hS); go_simp; done)); simp only [Act.put, List.setIfInBounds_toArray, List.set_cons_zero, List.set_cons_succ]) | (refine uni_callB (by rfl) (one_any) (fun _ _ hS hb => held3 hb hS) ?_ ?_; (focus (intro w hS; (try dsimp only at hS); go_simp; done)); simp only [Act.put, List.setIfInBounds_toArray, List.set_cons_zero, List.set_cons_succ]))
  refine uni_nil fun w2 hS => ?_
  go_wp2
  go_ret
  exact ⟨rfl, hS.2.2.2.out⟩

set_option maxRecDepth 100000 in
set_option maxHeartbeats 2000000 in
theorem zupd_any (y x h : BitVec 128) (w : World) :
    Calls Try.prog 49 #[.agg (blk y), .agg (blk x), .agg (blk h)] w fun e w' => e = .returned (.agg (blk (gmul (y ^^^ x) h))) ∧ Below w.heap.size w w' := by
  go_enter Try.func49, Try.ntmps49
  go_wp2
  go_loopw [7, 8] (fun _ i wr => ∃ k n : Nat, k ≤ 16 ∧ i = .int .i64 k ∧ wr = ((((w.alloc (.cells (blk y) 27)).alloc (.cells (blk (xorTo x y k)) 27)).alloc (.cells (blk h) 27)).alloc (.cells (blk 0#128) 27)).drewN n) (fun _ i _ => 16 - (intOf i).toNat)
  case atStart => exact ⟨0, 0, by omega, rfl, by rw [xorTo_zero]; rfl⟩
  case round =>
    obtain ⟨k, n, hk, rfl, rfl⟩ := hrel
    by_cases hlt : k < 16
    · have hk' : (k : Int) < 16 := by omega
      go_wp2
      refine wp_region_still_tail 8 (by kernel_rfl) (by kernel_rfl) ?_
      change wpStill _ _ (World.drew _) (fun a' => wpList _ _ _ _ a' (World.drew _)) _ _
      simp only [List.take_succ_cons, List.take_zero, List.drop_succ_cons, List.drop_zero]
      repeat still_step
      refine wpStill_nil ?_
      go_wp2
      go_roundw
      case rel =>
        refine ⟨k + 1, n + 1, by omega, by go_num, ?_⟩
        have e : setB (xorTo x y k) k (wxor (byte (xorTo x y k) k) (byte y k)) = xorTo x y (k + 1) := by unfold wxor; exact xorTo_succ x y k hlt
        rw [← e]
      case measure => simp [intOf]; omega
    · obtain rfl : k = 16 := by omega
      have q3 : objAt (((((w.alloc (.cells (blk y) 27)).alloc (.cells (blk (xorTo x y 16)) 27)).alloc (.cells (blk h) 27)).alloc (.cells (blk 0#128) 27)).drewN n) (w.heap.size + 1 + 1 + 1) = some (.cells (blk 0#128) 27 (0, 0)) := by simp [go_sem]
      have b3 : Below w.heap.size w (((((w.alloc (.cells (blk y) 27)).alloc (.cells (blk (xorTo x y 16)) 27)).alloc (.cells (blk h) 27)).alloc (.cells (blk 0#128) 27)).drewN n) := by
        refine bel_drewN ?_ _
        go_grown
      have b3' := Lib.hid b3
      clear b3
      go_wp2_with (go_at_call 42; (with_reducible refine (zprod_any _ _ _).mono ?_); rintro e w1 ⟨rfl, hb1⟩; have g2 := oa_below q3 hb1 (by simp); have hB := Lib.hid hb1; clear hb1)
      refine bodyPost_ret (retA (x := gmul (xorTo x y 16) h) (t := 27) (fr := (0, 0)) rfl rfl (objAt_setRow_same g2 _)) rfl ⟨by rw [xorTo_all, BitVec.xor_comm], ?_⟩
      exact bel_setRow (b3'.out.trans (hB.out.mono (by simp; omega))) (by omega) _

set_option maxHeartbeats 1000000 in
theorem iupd_any (y x h : BitVec 128) (w : World) :
    Calls Try.prog 36 #[.agg (blk y), .agg (blk x), .agg (blk h)] w fun e w' => e = .returned (.agg (blk (gmul (y ^^^ x) h))) ∧ Below w.heap.size w w' := by
  have q3 : objAt ((((w.alloc (.cells (blk y) 27)).alloc (.cells (blk x) 27)).alloc (.cells (blk h) 27)).alloc (.cells (blk 0#128) 27)) (w.heap.size + 1 + 1 + 1) = some (.cells (blk 0#128) 27 (0, 0)) := by simp [go_sem]
  have b3 : Below w.heap.size w ((((w.alloc (.cells (blk y) 27)).alloc (.cells (blk x) 27)).alloc (.cells (blk h) 27)).alloc (.cells (blk 0#128) 27)) := by go_grown
  have b3' := Lib.hid b3
  clear b3
  go_enter Try.func36, Try.ntmps36
  go_wp2_with (go_at_call 49; (with_reducible refine (zupd_any _ _ _ _).mono ?_); rintro e w1 ⟨rfl, hb1⟩; have g2 := oa_below q3 hb1 (by simp); have hB := Lib.hid hb1; clear hb1)
  refine bodyPost_ret (retA (x := gmul (y ^^^ x) h) (t := 27) (fr := (0, 0)) rfl rfl (objAt_setRow_same g2 _)) rfl ⟨rfl, ?_⟩
  exact bel_setRow (b3'.out.trans (hB.out.mono (by simp; omega))) (by omega) _

set_option maxHeartbeats 2000000 in
theorem upd_is (y x h : BitVec 128) (w : World) :
    Calls Try.prog 17 #[.agg (blk y), .agg (blk x), .agg (blk h)] w fun e w' => e = .returned (.bool true) ∧ Below w.heap.size w w' := by
  have t0 : weq (gmul (y ^^^ x) h) (gmul (y ^^^ x) h) = true := weq_self _
  have t1 : weq (gmul e0 e0) e0 = true := by rw [gmul_one_left]; exact weq_self _
  have q0 : objAt (((w.alloc (.cells (blk y) 27)).alloc (.cells (blk x) 27)).alloc (.cells (blk h) 27)) (w.heap.size) = some (.cells (blk y) 27 (0, 0)) := by simp [go_sem]
  have q1 : objAt (((w.alloc (.cells (blk y) 27)).alloc (.cells (blk x) 27)).alloc (.cells (blk h) 27)) (w.heap.size + 1) = some (.cells (blk x) 27 (0, 0)) := by simp [go_sem]
  have q2 : objAt (((w.alloc (.cells (blk y) 27)).alloc (.cells (blk x) 27)).alloc (.cells (blk h) 27)) (w.heap.size + 1 + 1) = some (.cells (blk h) 27 (0, 0)) := by simp [go_sem]
  have b0 : Below w.heap.size w (((w.alloc (.cells (blk y) 27)).alloc (.cells (blk x) 27)).alloc (.cells (blk h) 27)) := by go_grown
  go_enter Try.func17, Try.ntmps17
  go_wp2
  refine wp_region_uni (fun w' => objAt w' (w.heap.size) = some (.cells (blk y) 27 (0, 0)) ∧ objAt w' (w.heap.size + 1) = some (.cells (blk x) 27 (0, 0)) ∧ objAt w' (w.heap.size + 1 + 1) = some (.cells (blk h) 27 (0, 0)) ∧ Hid (Below w.heap.size w w')) (by kernel_rfl) (by kernel_rfl) ?_ ?_
  · exact ⟨oa_drew q0, oa_drew q1, oa_drew q2, start0 b0⟩
  iterate 19 (first | (refine uni_no (by rfl) ?_; simp only [Act.put, List.setIfInBounds_toArray, List.set_cons_zero, List.set_cons_succ]) | (refine uni_val (v := ?_) (by rfl) ?_ ?_; rotate_left; (focus (intro w hS; (try dsimp only at hS); go_simp; (try with_reducible rfl); done)); simp only [Act.put, List.setIfInBounds_toArray, List.set_cons_zero, List.set_cons_succ]) | (refine uni_callB (by rfl) (iupd_any y x h) (fun _ _ hS hb => held3 hb hS) ?_ ?_; (focus (intro w hS; (try dsimp only at hS); go_simp; done)); simp only [Act.put, List.setIfInBounds_toArray, List.set_cons_zero, List.set_cons_succ]) | (refine uni_callB (by rfl) (lxor_any y x) (fun _ _ hS hb => held3 hb hS) ?_ ?_; (focus (intro w hS; (try dsimp only at hS); go_simp; done)); simp only [Act.put, List.setIfInBounds_toArray, List.set_cons_zero, List.set_cons_succ]) | (refine uni_callB (by rfl) (iprod_any (y ^^^ x) h) (fun _ _ hS hb => held3 hb hS) ?_ ?_; (focus (intro w hS; (try dsimp only at hS); go_simp; done)); simp only [Act.put, List.setIfInBounds_toArray, List.set_cons_zero, List.set_cons_succ]) | (refine uni_callB (by rfl) (iupd_any e0 0#128 e0) (fun _ _ hS hb => held3 hb hS) ?_ ?_; (focus (intro w hS; (try dsimp only at hS); go_simp; done)); simp only [Act.put, List.setIfInBounds_toArray, List.set_cons_zero, List.set_cons_succ]) | (refine uni_callB (by rfl) (one_any) (fun _ _ hS hb => held3 hb hS) ?_ ?_; (focus (intro w hS; (try dsimp only at hS); go_simp; done)); simp only [Act.put, List.setIfInBounds_toArray, List.set_cons_zero, List.set_cons_succ]))
  refine uni_nil fun w1 hS => ?_
  go_wp2
  go_ret
  exact ⟨rfl, hS.2.2.2.out⟩
end Go.Proofs.Ytdaebcaokoajjaa

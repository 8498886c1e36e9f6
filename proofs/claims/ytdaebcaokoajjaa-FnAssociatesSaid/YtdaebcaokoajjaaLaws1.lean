/- The laws of the product: each function's walk, in whatever order it is drawn. -/
import Derived.Test.YtdaebcaokoajjaaProd
import Derived.Test.YtdaebcaokoajjaaOpen
namespace Go.Proofs.Ytdaebcaokoajjaa
open Go Go.RowKit Gf

set_option maxHeartbeats 2000000 in
theorem prodis_is (x y : BitVec 128) (w : World) :
    Calls Try.prog 10 #[.agg (blk x), .agg (blk y)] w fun e w' => e = .returned (.bool true) ∧ Below w.heap.size w w' := by
  have t0 : weq (gmul x y) (gmul x y) = true := weq_self _
  have q0 : objAt ((w.alloc (.cells (blk x) 27)).alloc (.cells (blk y) 27)) (w.heap.size) = some (.cells (blk x) 27 (0, 0)) := by simp [go_sem]
  have q1 : objAt ((w.alloc (.cells (blk x) 27)).alloc (.cells (blk y) 27)) (w.heap.size + 1) = some (.cells (blk y) 27 (0, 0)) := by simp [go_sem]
  have b0 : Below w.heap.size w ((w.alloc (.cells (blk x) 27)).alloc (.cells (blk y) 27)) := by go_grown
  go_enter Try.func10, Try.ntmps10
  go_wp2
  refine wp_region_uni (fun w' => objAt w' (w.heap.size) = some (.cells (blk x) 27 (0, 0)) ∧ objAt w' (w.heap.size + 1) = some (.cells (blk y) 27 (0, 0)) ∧ Hid (Below w.heap.size w w')) (by kernel_rfl) (by kernel_rfl) ?_ ?_
  · exact ⟨oa_drew q0, oa_drew q1, start0 b0⟩
  iterate 8 (first | (refine uni_no (by rfl) ?_; simp only [Act.put, List.setIfInBounds_toArray, List.set_cons_zero, List.set_cons_succ]) | (refine uni_val (v := ?_) (by rfl) ?_ ?_; rotate_left; (focus (intro w hS; (try dsimp only at hS); go_simp; (try with_reducible rfl); done)); simp only [Act.put, List.setIfInBounds_toArray, List.set_cons_zero, List.set_cons_succ]) | (refine uni_callB (by rfl) (iprod_any x y) (fun _ _ hS hb => held2 hb hS) ?_ ?_; (focus (intro w hS; (try dsimp only at hS); go_simp; done)); simp only [Act.put, List.setIfInBounds_toArray, List.set_cons_zero, List.set_cons_succ]) | (refine uni_callB (by rfl) (sprod_any x y) (fun _ _ hS hb => held2 hb hS) ?_ ?_; (focus (intro w hS; (try dsimp only at hS); go_simp; done)); simp only [Act.put, List.setIfInBounds_toArray, List.set_cons_zero, List.set_cons_succ]))
  refine uni_nil fun w1 hS => ?_
  go_wp2
  go_ret
  exact ⟨rfl, hS.2.2.out⟩

set_option maxHeartbeats 2000000 in
theorem isone_is (x : BitVec 128) (w : World) :
    Calls Try.prog 9 #[.agg (blk x)] w fun e w' => e = .returned (.bool true) ∧ Below w.heap.size w w' := by
  have t0 : weq (gmul x e0) x = true := by rw [gmul_one_right]; exact weq_self _
  have t1 : weq (gmul e0 x) x = true := by rw [gmul_one_left]; exact weq_self _
  have t2 : weq (gmul e0 e0) e0 = true := by rw [gmul_one_left]; exact weq_self _
  have q0 : objAt (w.alloc (.cells (blk x) 27)) (w.heap.size) = some (.cells (blk x) 27 (0, 0)) := by simp [go_sem]
  have b0 : Below w.heap.size w (w.alloc (.cells (blk x) 27)) := by go_grown
  go_enter Try.func9, Try.ntmps9
  go_wp2
  refine wp_region_uni (fun w' => objAt w' (w.heap.size) = some (.cells (blk x) 27 (0, 0)) ∧ Hid (Below w.heap.size w w')) (by kernel_rfl) (by kernel_rfl) ?_ ?_
  · exact ⟨oa_drew q0, start0 b0⟩
  iterate 20 (first | (refine uni_no (by rfl) ?_; simp only [Act.put, List.setIfInBounds_toArray, List.set_cons_zero, List.set_cons_succ]) | (refine uni_val (v := ?_) (by rfl) ?_ ?_; rotate_left; (focus (intro w hS; (try dsimp only at hS); go_simp; (try with_reducible rfl); done)); simp only [Act.put, List.setIfInBounds_toArray, List.set_cons_zero, List.set_cons_succ]) | (refine uni_callB (by rfl) (iprod_any x e0) (fun _ _ hS hb => held1 hb hS) ?_ ?_; (focus (intro w hS; (try dsimp only at hS); go_simp; done)); simp only [Act.put, List.setIfInBounds_toArray, List.set_cons_zero, List.set_cons_succ]) | (refine uni_callB (by rfl) (iprod_any e0 x) (fun _ _ hS hb => held1 hb hS) ?_ ?_; (focus (intro w hS; (try dsimp only at hS); go_simp; done)); simp only [Act.put, List.setIfInBounds_toArray, List.set_cons_zero, List.set_cons_succ]) | (refine uni_callB (by rfl) (iprod_any e0 e0) (fun _ _ hS hb => held1 hb hS) ?_ ?_; (focus (intro w hS; (try dsimp only at hS); go_simp; done)); simp only [Act.put, List.setIfInBounds_toArray, List.set_cons_zero, List.set_cons_succ]) | (refine uni_callB (by rfl) (one_any) (fun _ _ hS hb => held1 hb hS) ?_ ?_; (focus (intro w hS; (try dsimp only at hS); go_simp; done)); simp only [Act.put, List.setIfInBounds_toArray, List.set_cons_zero, List.set_cons_succ]))
  refine uni_nil fun w1 hS => ?_
  go_wp2
  go_ret
  exact ⟨rfl, hS.2.out⟩

set_option maxHeartbeats 2000000 in
theorem comm_is (x y : BitVec 128) (w : World) :
    Calls Try.prog 6 #[.agg (blk x), .agg (blk y)] w fun e w' => e = .returned (.bool true) ∧ Below w.heap.size w w' := by
  have t0 : weq (gmul x y) (gmul y x) = true := by rw [gmul_comm x y]; exact weq_self _
  have t1 : weq (gmul e0 e0) e0 = true := by rw [gmul_one_left]; exact weq_self _
  have q0 : objAt ((w.alloc (.cells (blk x) 27)).alloc (.cells (blk y) 27)) (w.heap.size) = some (.cells (blk x) 27 (0, 0)) := by simp [go_sem]
  have q1 : objAt ((w.alloc (.cells (blk x) 27)).alloc (.cells (blk y) 27)) (w.heap.size + 1) = some (.cells (blk y) 27 (0, 0)) := by simp [go_sem]
  have b0 : Below w.heap.size w ((w.alloc (.cells (blk x) 27)).alloc (.cells (blk y) 27)) := by go_grown
  go_enter Try.func6, Try.ntmps6
  go_wp2
  refine wp_region_uni (fun w' => objAt w' (w.heap.size) = some (.cells (blk x) 27 (0, 0)) ∧ objAt w' (w.heap.size + 1) = some (.cells (blk y) 27 (0, 0)) ∧ Hid (Below w.heap.size w w')) (by kernel_rfl) (by kernel_rfl) ?_ ?_
  · exact ⟨oa_drew q0, oa_drew q1, start0 b0⟩
  iterate 15 (first | (refine uni_no (by rfl) ?_; simp only [Act.put, List.setIfInBounds_toArray, List.set_cons_zero, List.set_cons_succ]) | (refine uni_val (v := ?_) (by rfl) ?_ ?_; rotate_left; (focus (intro w hS; (try dsimp only at hS); go_simp; (try with_reducible rfl); done)); simp only [Act.put, List.setIfInBounds_toArray, List.set_cons_zero, List.set_cons_succ]) | (refine uni_callB (by rfl) (iprod_any x y) (fun _ _ hS hb => held2 hb hS) ?_ ?_; (focus (intro w hS; (try dsimp only at hS); go_simp; done)); simp only [Act.put, List.setIfInBounds_toArray, List.set_cons_zero, List.set_cons_succ]) | (refine uni_callB (by rfl) (iprod_any y x) (fun _ _ hS hb => held2 hb hS) ?_ ?_; (focus (intro w hS; (try dsimp only at hS); go_simp; done)); simp only [Act.put, List.setIfInBounds_toArray, List.set_cons_zero, List.set_cons_succ]) | (refine uni_callB (by rfl) (iprod_any e0 e0) (fun _ _ hS hb => held2 hb hS) ?_ ?_; (focus (intro w hS; (try dsimp only at hS); go_simp; done)); simp only [Act.put, List.setIfInBounds_toArray, List.set_cons_zero, List.set_cons_succ]) | (refine uni_callB (by rfl) (one_any) (fun _ _ hS hb => held2 hb hS) ?_ ?_; (focus (intro w hS; (try dsimp only at hS); go_simp; done)); simp only [Act.put, List.setIfInBounds_toArray, List.set_cons_zero, List.set_cons_succ]))
  refine uni_nil fun w1 hS => ?_
  go_wp2
  go_ret
  exact ⟨rfl, hS.2.2.out⟩

set_option maxHeartbeats 2000000 in
theorem assoc_is (x y z : BitVec 128) (w : World) :
    Calls Try.prog 5 #[.agg (blk x), .agg (blk y), .agg (blk z)] w fun e w' => e = .returned (.bool true) ∧ Below w.heap.size w w' := by
  have t0 : weq (gmul (gmul x y) z) (gmul x (gmul y z)) = true := by rw [gmul_assoc]; exact weq_self _
  have t1 : weq (gmul e0 e0) e0 = true := by rw [gmul_one_left]; exact weq_self _
  have q0 : objAt (((w.alloc (.cells (blk x) 27)).alloc (.cells (blk y) 27)).alloc (.cells (blk z) 27)) (w.heap.size) = some (.cells (blk x) 27 (0, 0)) := by simp [go_sem]
  have q1 : objAt (((w.alloc (.cells (blk x) 27)).alloc (.cells (blk y) 27)).alloc (.cells (blk z) 27)) (w.heap.size + 1) = some (.cells (blk y) 27 (0, 0)) := by simp [go_sem]
  have q2 : objAt (((w.alloc (.cells (blk x) 27)).alloc (.cells (blk y) 27)).alloc (.cells (blk z) 27)) (w.heap.size + 1 + 1) = some (.cells (blk z) 27 (0, 0)) := by simp [go_sem]
  have b0 : Below w.heap.size w (((w.alloc (.cells (blk x) 27)).alloc (.cells (blk y) 27)).alloc (.cells (blk z) 27)) := by go_grown
  go_enter Try.func5, Try.ntmps5
  go_wp2
  refine wp_region_uni (fun w' => objAt w' (w.heap.size) = some (.cells (blk x) 27 (0, 0)) ∧ objAt w' (w.heap.size + 1) = some (.cells (blk y) 27 (0, 0)) ∧ objAt w' (w.heap.size + 1 + 1) = some (.cells (blk z) 27 (0, 0)) ∧ Hid (Below w.heap.size w w')) (by kernel_rfl) (by kernel_rfl) ?_ ?_
  · exact ⟨oa_drew q0, oa_drew q1, oa_drew q2, start0 b0⟩
  iterate 19 (first | (refine uni_no (by rfl) ?_; simp only [Act.put, List.setIfInBounds_toArray, List.set_cons_zero, List.set_cons_succ]) | (refine uni_val (v := ?_) (by rfl) ?_ ?_; rotate_left; (focus (intro w hS; (try dsimp only at hS); go_simp; (try with_reducible rfl); done)); simp only [Act.put, List.setIfInBounds_toArray, List.set_cons_zero, List.set_cons_succ]) | (refine uni_callB (by rfl) (iprod_any x y) (fun _ _ hS hb => held3 hb hS) ?_ ?_; (focus (intro w hS; (try dsimp only at hS); go_simp; done)); simp only [Act.put, List.setIfInBounds_toArray, List.set_cons_zero, List.set_cons_succ]) | (refine uni_callB (by rfl) (iprod_any (gmul x y) z) (fun _ _ hS hb => held3 hb hS) ?_ ?_; (focus (intro w hS; (try dsimp only at hS); go_simp; done)); simp only [Act.put, List.setIfInBounds_toArray, List.set_cons_zero, List.set_cons_succ]) | (refine uni_callB (by rfl) (iprod_any y z) (fun _ _ hS hb => held3 hb hS) ?_ ?_; (focus (intro w hS; (try dsimp only at hS); go_simp; done)); simp only [Act.put, List.setIfInBounds_toArray, List.set_cons_zero, List.set_cons_succ]) | (refine uni_callB (by rfl) (iprod_any x (gmul y z)) (fun _ _ hS hb => held3 hb hS) ?_ ?_; (focus (intro w hS; (try dsimp only at hS); go_simp; done)); simp only [Act.put, List.setIfInBounds_toArray, List.set_cons_zero, List.set_cons_succ]) | (refine uni_callB (by rfl) (iprod_any e0 e0) (fun _ _ hS hb => held3 hb hS) ?_ ?_; (focus (intro w hS; (try dsimp only at hS); go_simp; done)); simp only [Act.put, List.setIfInBounds_toArray, List.set_cons_zero, List.set_cons_succ]) | (refine uni_callB (by rfl) (one_any) (fun _ _ hS hb => held3 hb hS) ?_ ?_; (focus (intro w hS; (try dsimp only at hS); go_simp; done)); simp only [Act.put, List.setIfInBounds_toArray, List.set_cons_zero, List.set_cons_succ]))
  refine uni_nil fun w1 hS => ?_
  go_wp2
  go_ret
  exact ⟨rfl, hS.2.2.2.out⟩
end Go.Proofs.Ytdaebcaokoajjaa

/- The law of distribution. -/
import Derived.Test.YtdaebcaokoajjaaProd
import Derived.Test.YtdaebcaokoajjaaRelK
import Derived.Test.YtdaebcaokoajjaaOpen
namespace Go.Proofs.Ytdaebcaokoajjaa
open Go Go.RowKit Gf

set_option maxHeartbeats 2000000 in
theorem dist_is (x y z : BitVec 128) (w : World) :
    Calls Try.prog 7 #[.agg (blk x), .agg (blk y), .agg (blk z)] w fun e w' => e = .returned (.bool true) ∧ Below w.heap.size w w' := by
  have q0 : objAt (((w.alloc (.cells (blk x) 27)).alloc (.cells (blk y) 27)).alloc (.cells (blk z) 27)) (w.heap.size) = some (.cells (blk x) 27 (0, 0)) := by simp [go_sem]
  have q1 : objAt (((w.alloc (.cells (blk x) 27)).alloc (.cells (blk y) 27)).alloc (.cells (blk z) 27)) (w.heap.size + 1) = some (.cells (blk y) 27 (0, 0)) := by simp [go_sem]
  have q2 : objAt (((w.alloc (.cells (blk x) 27)).alloc (.cells (blk y) 27)).alloc (.cells (blk z) 27)) (w.heap.size + 1 + 1) = some (.cells (blk z) 27 (0, 0)) := by simp [go_sem]
  have b0 : Below w.heap.size w (((w.alloc (.cells (blk x) 27)).alloc (.cells (blk y) 27)).alloc (.cells (blk z) 27)) := by go_grown
  go_enter Try.func7, Try.ntmps7
  go_wp2
  refine wp_region_rel (l := [_, _, _, _, _, _, _, _]) (last := _) (fun w' => objAt w' w.heap.size = some (.cells (blk x) 27 (0, 0)) ∧ objAt w' (w.heap.size + 1) = some (.cells (blk y) 27 (0, 0)) ∧ objAt w' (w.heap.size + 1 + 1) = some (.cells (blk z) 27 (0, 0)) ∧ Hid (Below w.heap.size w w'))
    [isv (.agg (blk x)), isv (.agg (blk z)), isv (.agg (blk (gmul x z))), isv (.agg (blk y)), isv (.agg (blk z)), isv (.agg (blk (gmul y z))), isv (.agg (blk (gmul x z ^^^ gmul y z))), ptrTo (w.heap.size + 1 + 1 + 1) 0#128 27]
    (by kernel_rfl) (by kernel_rfl) ⟨oa_drew q0, oa_drew q1, oa_drew q2, start0 b0⟩ (fun _ _ hb hS => held3 hb hS) ?rstab ?rops ?rlast
  case rstab => exact stabs_cons (stab_isv _) (stabs_cons (stab_isv _) (stabs_cons (stab_isv _) (stabs_cons (stab_isv _) (stabs_cons (stab_isv _) (stabs_cons (stab_isv _) (stabs_cons (stab_isv _) (stabs_cons (stab_ptrTo _ _ _) stabs_nil)))))))
  case rops =>
    refine ⟨?_, ?_, ?_, ?_, ?_, ?_, ?_, ?_, trivial⟩
    · intro u w' hS hd
      refine opV_val (v := .agg (blk x)) (by rfl) ?_ rfl
      simp only [frameOf, Act.put, List.setIfInBounds_toArray, List.set_cons_zero, List.set_cons_succ]
      go_simp
    · intro u w' hS hd
      refine opV_val (v := .agg (blk z)) (by rfl) ?_ rfl
      simp only [frameOf, Act.put, List.setIfInBounds_toArray, List.set_cons_zero, List.set_cons_succ]
      go_simp
    · intro u w' hS hd
      have d0 : u 0 = .agg (blk (x)) := hd ⟨0, .data⟩ (by simp) rfl
      have d1 : u 1 = .agg (blk (z)) := hd ⟨1, .data⟩ (by simp) rfl
      refine opV_callB (by rfl) ?_ (iprod_any x z w')
      simp only [frameOf, Act.put, List.setIfInBounds_toArray, List.set_cons_zero, List.set_cons_succ]
      go_simp
    · intro u w' hS hd
      refine opV_val (v := .agg (blk y)) (by rfl) ?_ rfl
      simp only [frameOf, Act.put, List.setIfInBounds_toArray, List.set_cons_zero, List.set_cons_succ]
      go_simp
    · intro u w' hS hd
      refine opV_val (v := .agg (blk z)) (by rfl) ?_ rfl
      simp only [frameOf, Act.put, List.setIfInBounds_toArray, List.set_cons_zero, List.set_cons_succ]
      go_simp
    · intro u w' hS hd
      have d3 : u 3 = .agg (blk (y)) := hd ⟨3, .data⟩ (by simp) rfl
      have d4 : u 4 = .agg (blk (z)) := hd ⟨4, .data⟩ (by simp) rfl
      refine opV_callB (by rfl) ?_ (iprod_any y z w')
      simp only [frameOf, Act.put, List.setIfInBounds_toArray, List.set_cons_zero, List.set_cons_succ]
      go_simp
    · intro u w' hS hd
      have d2 : u 2 = .agg (blk (gmul x z)) := hd ⟨2, .data⟩ (by simp) rfl
      have d5 : u 5 = .agg (blk (gmul y z)) := hd ⟨5, .data⟩ (by simp) rfl
      refine opV_callB (by rfl) ?_ (lxor_any (gmul x z) (gmul y z) w')
      simp only [frameOf, Act.put, List.setIfInBounds_toArray, List.set_cons_zero, List.set_cons_succ]
      go_simp
    · intro u w' hS hd
      refine opV_make (v := .pointer (some ⟨w'.heap.size, 0, none⟩)) (w' := w'.alloc (.cells (blk 0#128) 27)) (by rfl) ?_ ((Below.refl _ _).alloc (Nat.le_refl _) _) ⟨_, rfl, oa_lt hS.2.2.1, objAt_alloc_at _ _ _ rfl⟩
      simp only [frameOf, Act.put, List.setIfInBounds_toArray, List.set_cons_zero, List.set_cons_succ]
      go_simp
  case rlast =>
    intro u w1 hS hV
    have d6 : u 6 = .agg (blk (gmul x z ^^^ gmul y z)) := hV 6 (by decide)
    obtain ⟨N, d7, hN, hNo⟩ : ptrTo (w.heap.size + 1 + 1 + 1) 0#128 27 (u 7) w1 := hV 7 (by decide)
    simp only [frameOf, Act.put, List.setIfInBounds_toArray, List.set_cons_zero, List.set_cons_succ]
    simp only [wpOp, List.length_cons, List.length_nil, Nat.zero_add, Nat.reduceAdd]
    go_simp
    refine .inl ?_
    have hk : N < w1.heap.size := oa_lt hNo
    have p0 := oa_row hS.1 (b := N) (by omega) (blk (gmul x z ^^^ gmul y z))
    have p1 := oa_row hS.2.1 (b := N) (by omega) (blk (gmul x z ^^^ gmul y z))
    have p2 := oa_row hS.2.2.1 (b := N) (by omega) (blk (gmul x z ^^^ gmul y z))
    have p3 := objAt_setRow_same hNo (blk (gmul x z ^^^ gmul y z))
    have b1 : Below w.heap.size w (w1.setRow N (blk (gmul x z ^^^ gmul y z))) := bel_setRow hS.2.2.2.out (by omega) _
    have t0 : weq (gmul (x ^^^ y) z) (gmul x z ^^^ gmul y z) = true := by rw [gmul_xor_left]; exact weq_self _
    have t1 : weq (gmul z (x ^^^ y)) (gmul x z ^^^ gmul y z) = true := by rw [gmul_xor_right, gmul_comm z x, gmul_comm z y]; exact weq_self _
    have t2 : weq (gmul e0 e0) e0 = true := by rw [gmul_one_left]; exact weq_self _
    generalize w1.setRow N (blk (gmul x z ^^^ gmul y z)) = w2 at p0 p1 p2 p3 b1 ⊢
    clear q0 q1 q2 hS hV hNo d6 d7
    generalize u 0 = u0
    generalize u 1 = u1
    generalize u 2 = u2
    generalize u 3 = u3
    generalize u 4 = u4
    generalize u 5 = u5
    go_wp2
    refine wp_region_uni (fun w' => objAt w' w.heap.size = some (.cells (blk x) 27 (0, 0)) ∧ objAt w' (w.heap.size + 1) = some (.cells (blk y) 27 (0, 0)) ∧ objAt w' (w.heap.size + 1 + 1) = some (.cells (blk z) 27 (0, 0)) ∧ objAt w' N = some (.cells (blk (gmul x z ^^^ gmul y z)) 27 (0, 0)) ∧ Hid (Below w.heap.size w w')) (by kernel_rfl) (by kernel_rfl) ?_ ?_
    · exact ⟨oa_drew p0, oa_drew p1, oa_drew p2, oa_drew p3, start0 b1⟩
    iterate 24 (first | (refine uni_no (by rfl) ?_; simp only [Act.put, List.setIfInBounds_toArray, List.set_cons_zero, List.set_cons_succ]) | (refine uni_val (v := ?_) (by rfl) ?_ ?_; rotate_left; (focus (intro w hS; (try dsimp only at hS); go_simp; (try with_reducible rfl); done)); simp only [Act.put, List.setIfInBounds_toArray, List.set_cons_zero, List.set_cons_succ]) | (refine uni_callB (by rfl) (lxor_any x y) (fun _ _ hS hb => held4 hb hS) ?_ ?_; (focus (intro w hS; (try dsimp only at hS); go_simp; done)); simp only [Act.put, List.setIfInBounds_toArray, List.set_cons_zero, List.set_cons_succ]) | (refine uni_callB (by rfl) (iprod_any (x ^^^ y) z) (fun _ _ hS hb => held4 hb hS) ?_ ?_; (focus (intro w hS; (try dsimp only at hS); go_simp; done)); simp only [Act.put, List.setIfInBounds_toArray, List.set_cons_zero, List.set_cons_succ]) | (refine uni_callB (by rfl) (iprod_any z (x ^^^ y)) (fun _ _ hS hb => held4 hb hS) ?_ ?_; (focus (intro w hS; (try dsimp only at hS); go_simp; done)); simp only [Act.put, List.setIfInBounds_toArray, List.set_cons_zero, List.set_cons_succ]) | (refine uni_callB (by rfl) (iprod_any e0 e0) (fun _ _ hS hb => held4 hb hS) ?_ ?_; (focus (intro w hS; (try dsimp only at hS); go_simp; done)); simp only [Act.put, List.setIfInBounds_toArray, List.set_cons_zero, List.set_cons_succ]) | (refine uni_callB (by rfl) (one_any) (fun _ _ hS hb => held4 hb hS) ?_ ?_; (focus (intro w hS; (try dsimp only at hS); go_simp; done)); simp only [Act.put, List.setIfInBounds_toArray, List.set_cons_zero, List.set_cons_succ]))
    refine uni_nil fun w3 hS => ?_
    go_wp2
    go_ret
    exact ⟨rfl, hS.2.2.2.2.out⟩
end Go.Proofs.Ytdaebcaokoajjaa

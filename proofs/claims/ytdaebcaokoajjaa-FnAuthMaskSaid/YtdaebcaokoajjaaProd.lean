/- The product of two blocks as the code hands it up (the hash of one block), and the laws' small helpers. -/
import Derived.Test.YtdaebcaokoajjaaGh2
import Derived.Test.YtdaebcaokoajjaaSpec1
import Derived.Test.YtdaebcaokoajjaaEq
import Derived.Test.YtdaebcaokoajjaaHeld
import Derived.Test.YtdaebcaokoajjaaUni
import Derived.Test.YtdaebcaokoajjaaNoDiv
namespace Go.Proofs.Ytdaebcaokoajjaa
open Go Go.RowKit Gf

def bytesOf (x : BitVec 128) : List (BitVec 8) := (List.range 16).map (byte x)
theorem bytesOf_length (x : BitVec 128) : (bytesOf x).length = 16 := by simp [bytesOf]
theorem bytesOf_get (x : BitVec 128) (i : Nat) (hi : i < 16) : (bytesOf x)[i]? = some (byte x i) := by simp [bytesOf, hi]
theorem blkAt_bytesOf (x : BitVec 128) : blkAt (bytesOf x) 0 = x := by
  unfold blkAt
  conv => rhs; rw [← ofBytes_byte x]
  refine ofBytes_congr fun i hi => ?_
  rw [Nat.mul_zero, Nat.zero_add, List.getD_eq_getElem?_getD, bytesOf_get x i hi]; rfl
theorem blksOf_bytesOf (x : BitVec 128) : blksOf (bytesOf x) = [x] := by
  unfold blksOf nb
  rw [bytesOf_length]
  simp [blkAt_bytesOf]
theorem seq_one (x : BitVec 128) : seqOf [bytesOf x] = [x] := by simp [seqOf, blksOf_bytesOf]
theorem yk_one (x h : BitVec 128) : yk [x] h 1 = gmul x h := by simp [yk]
/-- A block in memory reads as its bytes. -/
theorem rowAt_blk {Y : Nat} {W : World} {b : Nat} {x : BitVec 128} {t : TypeId} {fr : Nat × Nat} (c : Nat) (h : objAt W b = some (.cells (blk x) t fr)) (hne : b ≠ Y) (hc : 16 ≤ c) (hc2 : (c : Int) ≤ 9223372036854775807) :
    RowAt Y W (.slice (some ⟨b, 0, none⟩) 16 c) (bytesOf x) := by
  refine ⟨_, c, by rw [bytesOf_length], by rw [bytesOf_length]; exact hc, hc2, .inr ⟨b, 0, rfl, hne, oa_lt h, fun i v hv => ?_⟩⟩
  have hi : i < 16 := by have := (List.getElem?_eq_some_iff.1 hv).1; rwa [bytesOf_length] at this
  rw [bytesOf_get x i hi] at hv
  rw [Nat.zero_add, ← Option.some.inj hv]
  exact (objAt_cell h i).trans (blk_get x i hi)

set_option maxRecDepth 100000 in
set_option maxHeartbeats 1000000 in
theorem zprod_any (x h : BitVec 128) (w : World) :
    Calls Try.prog 42 #[.agg (blk x), .agg (blk h)] w fun e w' => e = .returned (.agg (blk (gmul x h))) ∧ Below w.heap.size w w' := by
  have q0 : objAt ((((w.alloc (.cells (blk x) 27)).alloc (.cells (blk h) 27)).alloc (.cells (blk 0#128) 27)).alloc (.cells #[.slice (some ⟨w.heap.size, 0, none⟩) 16 16] 35)) w.heap.size = some (.cells (blk x) 27 (0, 0)) := by simp [go_sem]
  have q1 : objAt ((((w.alloc (.cells (blk x) 27)).alloc (.cells (blk h) 27)).alloc (.cells (blk 0#128) 27)).alloc (.cells #[.slice (some ⟨w.heap.size, 0, none⟩) 16 16] 35)) (w.heap.size + 1) = some (.cells (blk h) 27 (0, 0)) := by simp [go_sem]
  have q2 : objAt ((((w.alloc (.cells (blk x) 27)).alloc (.cells (blk h) 27)).alloc (.cells (blk 0#128) 27)).alloc (.cells #[.slice (some ⟨w.heap.size, 0, none⟩) 16 16] 35)) (w.heap.size + 1 + 1) = some (.cells (blk 0#128) 27 (0, 0)) := by simp [go_sem]
  have q3 : objAt ((((w.alloc (.cells (blk x) 27)).alloc (.cells (blk h) 27)).alloc (.cells (blk 0#128) 27)).alloc (.cells #[.slice (some ⟨w.heap.size, 0, none⟩) 16 16] 35)) (w.heap.size + 1 + 1 + 1) = some (.cells #[.slice (some ⟨w.heap.size, 0, none⟩) 16 16] 35 (0, 0)) := by simp [go_sem]
  have b3 : Below w.heap.size w ((((w.alloc (.cells (blk x) 27)).alloc (.cells (blk h) 27)).alloc (.cells (blk 0#128) 27)).alloc (.cells #[.slice (some ⟨w.heap.size, 0, none⟩) 16 16] 35)) := by go_grown
  have hin : InAt (w.heap.size + 1 + 1) ((((w.alloc (.cells (blk x) 27)).alloc (.cells (blk h) 27)).alloc (.cells (blk 0#128) 27)).alloc (.cells #[.slice (some ⟨w.heap.size, 0, none⟩) 16 16] 35)) (.slice (some ⟨w.heap.size + 1 + 1 + 1, 0, none⟩) [bytesOf x].length 1) [bytesOf x] := by
    refine ⟨_, 1, rfl, by simp, by decide, .inr ⟨_, 0, rfl, by omega, oa_lt q3, fun i bs hi => ?_⟩⟩
    match i, hi with
    | 0, hi =>
      obtain rfl : bytesOf x = bs := by simpa using hi
      exact ⟨_, (objAt_cell q3 0).trans rfl, rowAt_blk 16 q0 (by omega) (by decide) (by decide)⟩
    | i + 1, hi => simp at hi
  have g := ghash_any (w.heap.size + 1 + 1) (w.heap.size + 1) 0#128 h 27 27 [bytesOf x] _ 1 _ q2 q1 (by omega) hin
  rw [seq_one, List.length_singleton, List.length_singleton, yk_one] at g
  have b3' := Lib.hid b3
  clear b3 hin
  go_enter Try.func42, Try.ntmps42
  go_wp2_with (go_at_call 54; (with_reducible refine g.mono ?_); rintro e w1 ⟨rfl, g2, hk1⟩; have hK := Lib.hid hk1; clear hk1)
  refine bodyPost_ret (retA (x := gmul x h) (t := 27) (fr := (0, 0)) rfl rfl (objAt_setRow_same g2 _)) rfl ⟨rfl, ?_⟩
  exact bel_setRow (b3'.out.trans (hK.out.bel.mono (by omega))) (by omega) _

set_option maxHeartbeats 1000000 in
theorem iprod_any (x h : BitVec 128) (w : World) :
    Calls Try.prog 25 #[.agg (blk x), .agg (blk h)] w fun e w' => e = .returned (.agg (blk (gmul x h))) ∧ Below w.heap.size w w' := by
  have q2 : objAt (((w.alloc (.cells (blk x) 27)).alloc (.cells (blk h) 27)).alloc (.cells (blk 0#128) 27)) (w.heap.size + 1 + 1) = some (.cells (blk 0#128) 27 (0, 0)) := by simp [go_sem]
  have b3 : Below w.heap.size w (((w.alloc (.cells (blk x) 27)).alloc (.cells (blk h) 27)).alloc (.cells (blk 0#128) 27)) := by go_grown
  have b3' := Lib.hid b3
  clear b3
  go_enter Try.func25, Try.ntmps25
  go_wp2_with (go_at_call 42; (with_reducible refine (zprod_any _ _ _).mono ?_); rintro e w1 ⟨rfl, hb1⟩; have g2 := oa_below q2 hb1 (by simp); have hB := Lib.hid hb1; clear hb1)
  refine bodyPost_ret (retA (x := gmul x h) (t := 27) (fr := (0, 0)) rfl rfl (objAt_setRow_same g2 _)) rfl ⟨rfl, ?_⟩
  exact bel_setRow (b3'.out.trans (hB.out.mono (by simp; omega))) (by omega) _

theorem set_one_bytes : (List.range 16).all (fun i => byte (setB 0#128 0 128#8) i == byte e0 i) = true := by decide +kernel
@[go_sem] theorem set_one : (blk 0#128).setIfInBounds 0 (.int .u8 128) = blk e0 := by
  have h := blk_set 0#128 0 128#8 (by decide)
  have e : setB 0#128 0 128#8 = e0 := bytes_ext fun i hi => by simpa using List.all_eq_true.1 set_one_bytes i (List.mem_range.2 hi)
  rw [e] at h
  exact h
set_option maxHeartbeats 1000000 in
theorem one_any (w : World) : Calls Try.prog 26 #[] w fun e w' => e = .returned (.agg (blk e0)) ∧ Below w.heap.size w w' := by
  go_enter Try.func26, Try.ntmps26
  go_wp2
  refine bodyPost_ret (retA (x := e0) (t := 27) (fr := (0, 0)) rfl rfl (by simp [go_sem])) rfl ⟨rfl, ?_⟩
  go_grown

set_option maxHeartbeats 1000000 in
theorem lxor_any (x y : BitVec 128) (w : World) :
    Calls Try.prog 27 #[.agg (blk x), .agg (blk y)] w fun e w' => e = .returned (.agg (blk (x ^^^ y))) ∧ Below w.heap.size w w' := by
  go_enter Try.func27, Try.ntmps27
  go_wp2
  go_loopw [5, 6] (fun _ i wr => ∃ k n : Nat, k ≤ 16 ∧ i = .int .i64 k ∧ wr = (((w.alloc (.cells (blk (xorTo x y k)) 27)).alloc (.cells (blk y) 27)).alloc (.cells (blk 0#128) 27)).drewN n) (fun _ i _ => 16 - (intOf i).toNat)
  case atStart => exact ⟨0, 0, by omega, rfl, by rw [xorTo_zero]; rfl⟩
  case round =>
    obtain ⟨k, n, hk, rfl, rfl⟩ := hrel
    by_cases hlt : k < 16
    · have hk' : (k : Int) < 16 := by omega
      go_wp2
      refine wp_region_still_tail 9 (by kernel_rfl) (by kernel_rfl) ?_
      change wpStill _ _ (World.drew _) (fun a' => wpList _ _ _ _ a' (World.drew _)) _ _
      simp only [List.take_succ_cons, List.take_zero, List.drop_succ_cons, List.drop_zero]
      repeat still_step
      refine wpStill_nil ?_
      go_wp2
      go_roundw
      case rel =>
        refine ⟨k + 1, n + 1, by omega, by go_num, ?_⟩
        have e : setB (xorTo x y k) k (wxor (byte (xorTo x y k) k) (byte y k)) = xorTo x y (k + 1) := by unfold wxor; exact xorTo_succ x y k hlt
        rw [← e]
      case measure => simp [intOf]; omega
    · obtain rfl : k = 16 := by omega
      go_wp2
      refine bodyPost_ret (retA (x := xorTo x y 16) (t := 27) (fr := (0, 0)) rfl rfl (by simp [go_sem])) rfl ⟨?_, ?_⟩
      · rw [xorTo_all]
      · refine bel_drewN ?_ _
        go_grown

end Go.Proofs.Ytdaebcaokoajjaa

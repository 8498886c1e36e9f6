/- The walks of the reference's bits, sums and products of blocks. -/
import Derived.Test.YtdaebcaokoajjaaBlk
import Derived.Test.YtdaebcaokoajjaaClose
import Derived.StillTailTactics
import Derived.BigQuiet
import Derived.Handy
import Derived.Lib.Hide
namespace Go.Proofs.Ytdaebcaokoajjaa
open Go.RowKit Gf

/-- Bit k of a block, the first one the highest: behind a name. -/
def bitB (x : BitVec 128) (k : Nat) : Bool := x.getMsbD k

set_option maxHeartbeats 1000000 in
theorem sbit_any (x : BitVec 128) (k : Nat) (hk : k < 128) (w : World) :
    Calls Try.prog 43 #[.agg (blk x), .int .i64 k] w fun e w' => e = .returned (.bool (bitB x k)) ∧ w.alloc (.cells (blk x) 33) = w' := by
  have h1 : k / 8 < 16 := by omega
  have h2 : (k : Int) / 8 < 16 := by omega
  have h3 : k % 8 < 8 := by omega
  have hm := Lib.hid (byte_msb x k hk)
  go_enter Try.func43, Try.ntmps43
  go_wp2
  go_ret
  exact ⟨by unfold bitB; rw [← hm.out]; rfl, rfl⟩

theorem sbit_127 (x : BitVec 128) (w : World) :
    Calls Try.prog 43 #[.agg (blk x), .int .i64 127] w fun e w' => e = .returned (.bool (bitB x 127)) ∧ w.alloc (.cells (blk x) 33) = w' := sbit_any x 127 (by decide) w

set_option maxHeartbeats 1000000 in
theorem sxor_any (x y : BitVec 128) (w : World) :
    Calls Try.prog 44 #[.agg (blk x), .agg (blk y)] w fun e w' => e = .returned (.agg (blk (x ^^^ y))) ∧ Below w.heap.size w w' := by
  go_enter Try.func44, Try.ntmps44
  go_wp2
  go_loopw [5, 6] (fun _ i wr => ∃ k n : Nat, k ≤ 16 ∧ i = .int .i64 k ∧ wr = (((w.alloc (.cells (blk (xorTo x y k)) 33)).alloc (.cells (blk y) 33)).alloc (.cells (blk 0#128) 33)).drewN n) (fun _ i _ => 16 - (intOf i).toNat)
  case atStart => exact ⟨0, 0, by omega, rfl, by rw [xorTo_zero]; rfl⟩
  case round =>
    obtain ⟨k, n, hk, rfl, rfl⟩ := hrel
    by_cases hlt : k < 16
    · have hk' : (k : Int) < 16 := by omega
      go_wp2
      refine wp_region_still_tail 9 (by kernel_rfl) (by kernel_rfl) ?_
      change wpStill _ _ (World.drew _) (fun a' => wpList _ _ _ _ a' (World.drew _)) _ _
      simp only [List.take_succ_cons, List.take_zero, List.drop_succ_cons, List.drop_zero]
      repeat still_step
      refine wpStill_nil ?_
      go_wp2
      go_roundw
      case rel =>
        refine ⟨k + 1, n + 1, by omega, by go_num, ?_⟩
        have e : setB (xorTo x y k) k (wxor (byte (xorTo x y k) k) (byte y k)) = xorTo x y (k + 1) := by unfold wxor; exact xorTo_succ x y k hlt
        rw [← e]
      case measure => simp [intOf]; omega
    · obtain rfl : k = 16 := by omega
      go_wp2
      refine bodyPost_ret (retB (x := xorTo x y 16) (t := 33) (fr := (0, 0)) rfl rfl (by simp [go_sem])) rfl ⟨?_, ?_⟩
      · rw [xorTo_all]
      · refine bel_drewN ?_ _
        go_grown

set_option maxHeartbeats 1000000 in
theorem sbyx_any (b : BitVec 128) (w : World) :
    Calls Try.prog 45 #[.agg (blk b)] w fun e w' => e = .returned (.agg (blk (mulX b))) ∧ Below w.heap.size w w' := by
  go_enter Try.func45, Try.ntmps45
  go_wp2
  go_loopw [4] (fun i wr => ∃ k : Nat, k ≤ 127 ∧ i = .int .i64 k ∧ objAt wr w.heap.size = some (.cells (blk b) 33 (0, 0)) ∧ objAt wr (w.heap.size + 1) = some (.cells (blk 0#128) 33 (0, 0)) ∧
      objAt wr (w.heap.size + 1 + 1) = some (.cells (blk (shTo b k)) 33 (0, 0)) ∧ Below w.heap.size w wr) (fun i _ => 127 - (intOf i).toNat)
  case atStart =>
    refine ⟨0, by omega, rfl, by simp [go_sem], by simp [go_sem], by rw [shTo_zero]; simp [go_sem], ?_⟩
    go_grown
  case round =>
    obtain ⟨k, hk, rfl, h0, h1, h2, hb⟩ := hrel
    have hz0 := objAt_lt h2
    have hz1 : w.heap.size + 1 < wr.heap.size := by omega
    have hz2 : w.heap.size < wr.heap.size := by omega
    by_cases hlt : k < 127
    · have hB := Lib.hid hb
      clear hb
      have hk' : (k : Int) < 127 := by omega
      have hk2 : (k : Int) + 1 < 128 := by omega
      have hk3 : (k + 1) / 8 < 16 := by omega
      have hk4 : ((k : Int) + 1) / 8 < 16 := by omega
      have c2 := (objAt_cell h2 ((k + 1) / 8)).trans (blk_get _ _ hk3)
      have f2 := objAt_free h2 ((k + 1) / 8)
      cases hbit : bitB b k
      · go_wp2_with (go_at_call 43; (with_reducible refine (sbit_any _ _ (by omega) _).mono ?_); rintro e w1 ⟨rfl, rfl⟩)
        go_roundw
        case rel =>
          refine ⟨k + 1, by omega, by go_num, oa_alloc h0 _, oa_alloc h1 _, by rw [shTo_off b k hlt hbit]; exact oa_alloc h2 _, ?_⟩
          exact hB.out.alloc (by omega) _
        case measure => simp [intOf]; omega
      · go_wp2_with (go_at_call 43; (with_reducible refine (sbit_any _ _ (by omega) _).mono ?_); rintro e w1 ⟨rfl, rfl⟩)
        have e1 : IntKind.i64.wrap ((k : Int) + 1) = (k : Int) + 1 := IntWalk.i64_in _ (by omega)
        have e2 : IntKind.i64.wrap (((k : Int) + 1).tdiv 8) = ((k : Int) + 1) / 8 := by rw [Int.tdiv_eq_ediv_of_nonneg (by omega)]; exact IntWalk.i64_in _ (by omega)
        have e3 : ((k : Int) + 1).tmod 8 = ((k : Int) + 1) % 8 := Int.tmod_eq_emod_of_nonneg (by omega)
        have e4 : (((k : Int) + 1) / 8).toNat = (k + 1) / 8 := by omega
        have e5 : (((k : Int) + 1) % 8).toNat = (k + 1) % 8 := by omega
        have e6 : min ((k + 1) % 8) 8 = (k + 1) % 8 := by omega
        have e7 : 0 ≤ ((k : Int) + 1) / 8 := by omega
        have e8 : 0 ≤ ((k : Int) + 1) % 8 := by omega
        refine wp_region_still_tail 14 (by kernel_rfl) (by kernel_rfl) ?_
        change wpStill _ _ (World.drew _) (fun a' => wpList _ _ _ _ a' (World.drew _)) _ _
        simp only [List.take_succ_cons, List.take_zero, List.drop_succ_cons, List.drop_zero]
        repeat still_step
        refine wpStill_nil ?_
        go_wp2
        go_roundw
        case rel =>
          have h2' := objAt_set h2 ((k + 1) / 8) (.int .u8 (n8 (wor (byte (shTo b k) ((k + 1) / 8)) (wshr 128#8 ((k + 1) % 8)))))
          rw [blk_set _ _ _ hk3] at h2'
          have e : setB (shTo b k) ((k + 1) / 8) (wor (byte (shTo b k) ((k + 1) / 8)) (wshr 128#8 ((k + 1) % 8))) = shTo b (k + 1) := shTo_on b k hlt hbit
          rw [e] at h2'
          refine ⟨k + 1, by omega, by go_num, oa_drew (oa_alloc (oa_set h0 (by omega) _ _) _), oa_drew (oa_alloc (oa_set h1 (by omega) _ _) _), oa_drew (oa_alloc h2' _), ?_⟩
          exact (((hB.out.setCell (p := ⟨w.heap.size + 1 + 1, (k + 1) / 8, none⟩) (by simp; omega) _).alloc (by simp; omega) _)).drew
        case measure => simp [intOf]; omega
    · obtain rfl : k = 127 := by omega
      have hB := Lib.hid hb
      clear hb
      rw [shTo_all] at h2
      have c2 := (objAt_cell h2 0).trans (blk_get _ _ (by decide))
      have f2 := objAt_free h2 0
      cases hbit : bitB b 127
      · go_wp2_with (go_at_call 43; (with_reducible refine (sbit_127 _ _).mono ?_); rintro e w1 ⟨rfl, rfl⟩)
        refine bodyPost_ret (retB (x := b >>> 1) (t := 33) (fr := (0, 0)) rfl rfl (oa_alloc (objAt_setRow_same h1 _) _)) rfl ⟨?_, ?_⟩
        · rw [mulX_off b hbit]
        · exact (bel_setRow hB.out (by omega) _).alloc (by simp; omega) _
      · have h2' := objAt_set h2 0 (.int .u8 (n8 (wxor (byte (b >>> 1) 0) 225#8)))
        rw [blk_set _ _ _ (by decide)] at h2'
        have h1' := oa_set h1 (b := w.heap.size + 1 + 1) (by omega) 0 (.int .u8 (n8 (wxor (byte (b >>> 1) 0) 225#8)))
        have he : setB (b >>> 1) 0 (wxor (byte (b >>> 1) 0) 225#8) = mulX b := mulX_on b hbit
        rw [he] at h2'
        go_wp2_with (go_at_call 43; (with_reducible refine (sbit_127 _ _).mono ?_); rintro e w1 ⟨rfl, rfl⟩)
        refine bodyPost_ret (retB (x := mulX b) (t := 33) (fr := (0, 0)) rfl rfl (oa_alloc (objAt_setRow_same h1' _) _)) rfl ⟨rfl, ?_⟩
        exact (bel_setRow (hB.out.setCell (p := ⟨w.heap.size + 1 + 1, 0, none⟩) (by simp; omega) _) (by omega) _).alloc (by simp; omega) _

set_option maxHeartbeats 2000000 in
theorem sprod_any (a b : BitVec 128) (w : World) :
    Calls Try.prog 28 #[.agg (blk a), .agg (blk b)] w fun e w' => e = .returned (.agg (blk (gmul a b))) ∧ Below w.heap.size w w' := by
  go_enter Try.func28, Try.ntmps28
  go_wp2
  go_loopw [6] (fun i wr => ∃ k : Nat, k ≤ 128 ∧ i = .int .i64 k ∧ objAt wr w.heap.size = some (.cells (blk a) 33 (0, 0)) ∧ objAt wr (w.heap.size + 1) = some (.cells (blk (xs k b)) 33 (0, 0)) ∧
      objAt wr (w.heap.size + 1 + 1) = some (.cells (blk 0#128) 33 (0, 0)) ∧ objAt wr (w.heap.size + 1 + 1 + 1) = some (.cells (blk (sumB k (fun i => xs i b) a)) 33 (0, 0)) ∧ Below w.heap.size w wr) (fun i _ => 128 - (intOf i).toNat)
  case atStart =>
    refine ⟨0, by omega, rfl, by simp [go_sem], by simp [go_sem, xs], by simp [go_sem], by simp [go_sem, sumB], ?_⟩
    go_grown
  case round =>
    obtain ⟨k, hk, rfl, h0, h1, h2, h3, hb⟩ := hrel
    have hz0 := oa_lt h3
    have hz1 : w.heap.size + 1 + 1 < wr.heap.size := by omega
    have hz2 : w.heap.size + 1 < wr.heap.size := by omega
    have hz3 : w.heap.size < wr.heap.size := by omega
    have hB := Lib.hid hb
    clear hb
    by_cases hlt : k < 128
    · have hk' : (k : Int) < 128 := by omega
      have hk2 : (k : Int) + 1 < 129 := by omega
      cases hbit : bitB a k
      · go_wp2_with (first
          | (go_at_call 43; (with_reducible refine (sbit_any _ _ (by omega) _).mono ?_); rintro e w1 ⟨rfl, rfl⟩)
          | (go_at_call 45; (with_reducible refine (sbyx_any _ _).mono ?_); rintro e w3 ⟨rfl, hb3⟩; have g0 := oa_below (oa_alloc h0 (.cells (blk a) 33)) hb3 (by simp; omega); have g1 := oa_below (oa_alloc h1 (.cells (blk a) 33)) hb3 (by simp; omega); have g2 := oa_below (oa_alloc h2 (.cells (blk a) 33)) hb3 (by simp; omega); have g3 := oa_below (oa_alloc h3 (.cells (blk a) 33)) hb3 (by simp; omega); have hB3 := Lib.hid ((hB.out.alloc (by omega) (.cells (blk a) 33)).trans (hb3.mono (by simp; omega))); clear hb3))
        go_roundw
        case rel =>
          refine ⟨k + 1, by omega, by go_num, oa_row g0 (by omega) _, objAt_setRow_same g1 _, oa_row g2 (by omega) _, ?_, bel_setRow hB3.out (by omega) _⟩
          have e : sumB (k + 1) (fun i => xs i b) a = sumB k (fun i => xs i b) a := by
            have hbit' : a.getMsbD k = false := hbit
            simp [sumB, hbit']
          rw [e]
          exact oa_row g3 (by omega) _
        case measure => simp [intOf]; omega
      · go_wp2_with (first
          | (go_at_call 43; (with_reducible refine (sbit_any _ _ (by omega) _).mono ?_); rintro e w1 ⟨rfl, rfl⟩)
          | (go_at_call 44; (with_reducible refine (sxor_any _ _ _).mono ?_); rintro e w2 ⟨rfl, hb2⟩; have g0 := oa_below (oa_alloc h0 (.cells (blk a) 33)) hb2 (by simp; omega); have g1 := oa_below (oa_alloc h1 (.cells (blk a) 33)) hb2 (by simp; omega); have g2 := oa_below (oa_alloc h2 (.cells (blk a) 33)) hb2 (by simp; omega); have g3 := oa_below (oa_alloc h3 (.cells (blk a) 33)) hb2 (by simp; omega); have hB2 := Lib.hid ((hB.out.alloc (by omega) (.cells (blk a) 33)).trans (hb2.mono (by simp; omega))); clear hb2; have k0 := oa_row g0 (b := w.heap.size + 1 + 1 + 1) (by omega) (blk (sumB k (fun i => xs i b) a ^^^ xs k b)); have k1 := oa_row g1 (b := w.heap.size + 1 + 1 + 1) (by omega) (blk (sumB k (fun i => xs i b) a ^^^ xs k b)); have k2 := oa_row g2 (b := w.heap.size + 1 + 1 + 1) (by omega) (blk (sumB k (fun i => xs i b) a ^^^ xs k b)); have k3 := objAt_setRow_same g3 (blk (sumB k (fun i => xs i b) a ^^^ xs k b)); have hz4 := oa_lt k3)
          | (go_at_call 45; (with_reducible refine (sbyx_any _ _).mono ?_); rintro e w3 ⟨rfl, hb3⟩; have m0 := oa_below k0 hb3 (by omega); have m1 := oa_below k1 hb3 (by omega); have m2 := oa_below k2 hb3 (by omega); have m3 := oa_below k3 hb3 (by omega); have hB3 := Lib.hid ((bel_setRow hB2.out (by omega) (blk (sumB k (fun i => xs i b) a ^^^ xs k b))).trans (hb3.mono (by omega))); clear hb3))
        go_roundw
        case rel =>
          refine ⟨k + 1, by omega, by go_num, oa_row m0 (by omega) _, objAt_setRow_same m1 _, oa_row m2 (by omega) _, ?_, bel_setRow hB3.out (by omega) _⟩
          have e : sumB (k + 1) (fun i => xs i b) a = sumB k (fun i => xs i b) a ^^^ xs k b := by
            have hbit' : a.getMsbD k = true := hbit
            simp [sumB, hbit']
          rw [e]
          exact oa_row m3 (by omega) _
        case measure => simp [intOf]; omega
    · obtain rfl : k = 128 := by omega
      go_wp2
      refine bodyPost_ret (retB (x := gmul a b) (t := 33) (fr := (0, 0)) rfl rfl (objAt_setRow_same h2 _)) rfl ⟨rfl, ?_⟩
      exact bel_setRow hB.out (by omega) _
end Go.Proofs.Ytdaebcaokoajjaa

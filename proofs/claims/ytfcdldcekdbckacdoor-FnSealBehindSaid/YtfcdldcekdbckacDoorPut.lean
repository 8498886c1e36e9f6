/- The walks of a word of 64 bits that is laid into a block, and of two blocks that are added into a third. -/
import Derived.Test.YtfcdldcekdbckacDoorLenB
namespace Go.Proofs.YtfcdldcekdbckacDoor
open Go Go.RowKit Gf

set_option maxRecDepth 100000 in
set_option maxHeartbeats 1000000 in
theorem put64_any (g o n c : Nat) (x : BitVec 128) (v : BitVec 64) (t : TypeId) (w : World) (ho : o + 8 ≤ 16) (hn : 8 ≤ n) (hn2 : (n : Int) ≤ 9223372036854775807)
    (hg : objAt w g = some (.cells (blk x) t (0, 0))) :
    Calls Tryd.prog 35 #[.slice (some ⟨g, o, none⟩) n c, .int .u64 (n64 v)] w fun e w' => e = .returned (.tuple #[]) ∧ objAt w' g = some (.cells (blk (put8 x o v 8)) t (0, 0)) ∧ Keeps g w w' := by
  have k7 : (7 : Int) < (n : Int) := by omega
  have c7 := (objAt_cell hg (o + 7)).trans (blk_get _ _ (by omega))
  go_enter Tryd.func35, Tryd.ntmps35
  go_wp2
  clear c7
  go_loopw [4] (fun i wr => ∃ k : Nat, k ≤ 8 ∧ i = .int .i64 k ∧ objAt wr g = some (.cells (blk (put8 x o v k)) t (0, 0)) ∧ Keeps g w wr) (fun i _ => 8 - (intOf i).toNat)
  case atStart => exact ⟨0, by omega, rfl, by rw [put8_zero]; exact hg, Keeps.refl _ _⟩
  case round =>
    obtain ⟨k, hk, rfl, hgk, hK⟩ := hrel
    by_cases hlt : k < 8
    · have hk' : (k : Int) < 8 := by omega
      have hkn : (k : Int) < n := by omega
      have e0 : IntKind.i64.wrap (8 * (k : Int)) = ((8 * k : Nat) : Int) := by rw [IntKind.wrap_i64]; omega
      have e1 : IntKind.i64.wrap (56 - 8 * (k : Int)) = ((56 - 8 * k : Nat) : Int) := by rw [IntKind.wrap_i64]; omega
      have e2 : ¬ (56 - 8 * (k : Int) < 0) := by omega
      have c1 := (objAt_cell hgk (o + k)).trans (blk_get _ _ (by omega))
      have f1 := objAt_free hgk (o + k)
      have hw := w8_shift v k
      go_wp2
      go_roundw
      case rel =>
        refine ⟨k + 1, by omega, by go_num, ?_, ?_⟩
        · have h := objAt_set hgk (o + k) (.int .u8 (n8 (w8 v k)))
          rw [blk_set _ _ _ (by omega), put8_succ] at h
          exact h
        · exact hK.set _ _
      case measure => simp [intOf]; omega
    · obtain rfl : k = 8 := by omega
      go_wp2
      refine bodyPost_end (v := .tuple #[]) (by simp [results, Tryd.results35, go_sem]) rfl ⟨rfl, hgk, hK⟩

set_option maxRecDepth 100000 in
set_option maxHeartbeats 1000000 in
theorem xorb_any (D X Y : Nat) (x y d : BitVec 128) (tD tX tY : TypeId) (fX fY : Nat × Nat) (w : World) (hD : objAt w D = some (.cells (blk d) tD (0, 0))) (hX : objAt w X = some (.cells (blk x) tX fX)) (hY : objAt w Y = some (.cells (blk y) tY fY))
    (hDX : X ≠ D) (hDY : Y ≠ D) :
    Calls Tryd.prog 38 #[.slice (some ⟨D, 0, none⟩) 16 16, .slice (some ⟨X, 0, none⟩) 16 16, .slice (some ⟨Y, 0, none⟩) 16 16] w fun e w' => e = .returned (.int .i64 16) ∧ objAt w' D = some (.cells (blk (x ^^^ y)) tD (0, 0)) ∧ Keeps D w w' := by
  go_enter Tryd.func38, Tryd.ntmps38
  go_wp2
  go_loopw [8] (fun i wr => ∃ k : Nat, k ≤ 16 ∧ i = .int .i64 k ∧ objAt wr D = some (.cells (blk (mixTo x y d k)) tD (0, 0)) ∧ Keeps D w wr) (fun i _ => 16 - (intOf i).toNat)
  case atStart => exact ⟨0, by omega, rfl, by rw [mixTo_zero]; exact hD, Keeps.refl _ _⟩
  case round =>
    obtain ⟨k, hk, rfl, hDk, hK⟩ := hrel
    by_cases hlt : k < 16
    · have hk' : (k : Int) < 16 := by omega
      have hXk := hK.at_ hX hDX
      have hYk := hK.at_ hY hDY
      have cX := (objAt_cell hXk k).trans (blk_get _ _ hlt)
      have cY := (objAt_cell hYk k).trans (blk_get _ _ hlt)
      have cD := (objAt_cell hDk k).trans (blk_get _ _ hlt)
      have fD := objAt_free hDk k
      go_wp2
      refine wp_region_still_tail 12 (by kernel_rfl) (by kernel_rfl) ?_
      change wpStill _ _ (World.drew _) (fun a' => wpList _ _ _ _ a' (World.drew _)) _ _
      simp only [List.take_succ_cons, List.take_zero, List.drop_succ_cons, List.drop_zero]
      repeat still_step
      refine wpStill_nil ?_
      go_wp2
      go_roundw
      case rel =>
        refine ⟨k + 1, by omega, by go_num, ?_, ?_⟩
        · have h := objAt_set (oa_drew hDk) k (.int .u8 (n8 (byte x k ^^^ byte y k)))
          rw [blk_set _ _ _ hlt, mixTo_succ _ _ _ _ hlt] at h
          exact h
        · exact hK.drew.set _ _
      case measure => simp [intOf]; omega
    · obtain rfl : k = 16 := by omega
      rw [mixTo_all] at hDk
      go_wp2
      go_ret
      exact ⟨rfl, hDk, hK⟩
end Go.Proofs.YtfcdldcekdbckacDoor

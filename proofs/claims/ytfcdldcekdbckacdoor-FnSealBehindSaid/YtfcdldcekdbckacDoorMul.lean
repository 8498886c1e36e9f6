/- The walk of the masked multiplication: it returns the carryless product. -/
import Derived.Test.YtfcdldcekdbckacDoorWd
import Derived.Test.YtfcdldcekdbckacDoorFin
import Derived.StillTailTactics
import Derived.BigQuiet
import Derived.Handy
namespace Go.Proofs.YtfcdldcekdbckacDoor
open Go.RowKit

def zW (x y a b c d : BitVec 32) (m : BitVec 64) : BitVec 64 :=
  wand (wxor (wxor (wxor (wmul (wext 64 (wand x 0x11111111#32)) (wext 64 (wand y a))) (wmul (wext 64 (wand x 0x22222222#32)) (wext 64 (wand y b))))
    (wmul (wext 64 (wand x 0x44444444#32)) (wext 64 (wand y c)))) (wmul (wext 64 (wand x 0x88888888#32)) (wext 64 (wand y d)))) m
def mulW (x y : BitVec 32) : BitVec 64 :=
  wor (wor (wor (zW x y 0x11111111#32 0x88888888#32 0x44444444#32 0x22222222#32 0x1111111111111111#64)
    (zW x y 0x22222222#32 0x11111111#32 0x88888888#32 0x44444444#32 0x2222222222222222#64))
    (zW x y 0x44444444#32 0x22222222#32 0x11111111#32 0x88888888#32 0x4444444444444444#64))
    (zW x y 0x88888888#32 0x44444444#32 0x22222222#32 0x11111111#32 0x8888888888888888#64)

theorem mulW_clm (x y : BitVec 32) : mulW x y = Gf.clm x y := by
  rw [← Gf.mulC_clm]
  have m0 : (0x11111111#32 <<< 0) = 0x11111111#32 := by decide
  have m1 : (0x11111111#32 <<< 1) = 0x22222222#32 := by decide
  have m2 : (0x11111111#32 <<< 2) = 0x44444444#32 := by decide
  have m3 : (0x11111111#32 <<< 3) = 0x88888888#32 := by decide
  have z0 : Gf.zm 0 = 0x1111111111111111#64 := by decide
  have z1 : Gf.zm 1 = 0x2222222222222222#64 := by decide
  have z2 : Gf.zm 2 = 0x4444444444444444#64 := by decide
  have z3 : Gf.zm 3 = 0x8888888888888888#64 := by decide
  unfold Gf.mulC Gf.zC Gf.xm Gf.wid mulW zW wand wor wxor wmul wext
  simp only [Nat.reduceAdd, Nat.reduceMod, m0, m1, m2, m3, z0, z1, z2, z3]

set_option maxRecDepth 100000 in
set_option maxHeartbeats 4000000 in
theorem mul_any (x y : BitVec 32) (w : World) :
    Calls Tryd.prog 44 #[.int .u32 (n32 x), .int .u32 (n32 y)] w fun e w' => e = .returned (.int .u64 (n64 (Gf.clm x y))) ∧ Below w.heap.size w w' := by
  rw [← mulW_clm]
  go_enter Tryd.func44, Tryd.ntmps44
  go_wp2
  go_rounds 5
  refine wp_loop_rounds 5 ?_
  iterate 4
    rw [rounds_succ]
    go_wp2
    refine wp_region_still_tail 43 (by kernel_rfl) (by kernel_rfl) ?_
    change wpStill _ _ (World.drew _) (fun a' => wpList _ _ _ _ a' (World.drew _)) _ _
    simp only [List.take_succ_cons, List.take_zero, List.drop_succ_cons, List.drop_zero]
    repeat still_step
    refine wpStill_nil ?_
    go_wp2
    refine wp_region_still_tail 7 (by kernel_rfl) (by kernel_rfl) ?_
    change wpStill _ _ (World.drew _) (fun a' => wpList _ _ _ _ a' (World.drew _)) _ _
    simp only [List.take_succ_cons, List.take_zero, List.drop_succ_cons, List.drop_zero]
    repeat still_step
    refine wpStill_nil ?_
    go_wp2
  rw [rounds_succ]
  go_wp2
  go_ret
  refine ⟨rfl, ?_⟩
  go_grown
end Go.Proofs.YtfcdldcekdbckacDoor

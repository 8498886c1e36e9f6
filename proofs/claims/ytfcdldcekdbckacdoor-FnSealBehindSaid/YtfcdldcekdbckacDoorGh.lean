/- The walk of the code's GHASH: what lies ahead of the loop. -/
import Derived.Test.YtfcdldcekdbckacDoorIter
import Derived.Test.YtfcdldcekdbckacDoorBe
import Derived.Test.YtfcdldcekdbckacDoorMul
import Derived.Test.YtfcdldcekdbckacDoorFin
namespace Go.Proofs.YtfcdldcekdbckacDoor
open Go Go.RowKit Gf
attribute [local go_sem] Oper.semAt_some
theorem zero_cells16 : Builtin.zeroCells #[Value.int .u8 0] 16 = blk 0#128 := by
  rw [← zero_blk]; kernel_rfl
theorem run_clear16 (w : World) (g c : Nat) (x : BitVec 128) (t ty : TypeId) (hg : objAt w g = some (.cells (blk x) t (0, 0))) :
    (Builtin.clear_ #[22] ty #[.slice (some ⟨g, 0, none⟩) 16 c]).run Tryd.prog w = .ok (.tuple #[]) (w.setRow g (blk 0#128)) := by
  have hw := wr16 w g 0#128
  rw [hg, wrOf_blk] at hw
  simp [Builtin.clear_, run_underlying Tryd.underlying22, go_sem, zero_cells16, hw]

/-- Four words as cells. -/
def wds (x : BitVec 128) : Array Value := #[.int .u32 (n32 (wd x 0)), .int .u32 (n32 (wd x 1)), .int .u32 (n32 (wd x 2)), .int .u32 (n32 (wd x 3))]
theorem wd_be (x : BitVec 128) (i : Nat) (hi : i < 4) : be32 (byte x (4 * i)) (byte x (4 * i + 1)) (byte x (4 * i + 2)) (byte x (4 * i + 3)) = wd x (3 - i) := by
  apply BitVec.eq_of_getLsbD_eq
  intro t ht
  unfold be32 wor wshl wext wd
  simp only [BitVec.getLsbD_or, BitVec.getLsbD_shiftLeft, BitVec.getLsbD_setWidth, BitVec.getLsbD_extractLsb', ht, decide_true, Bool.true_and]
  have hb : ∀ (k s : Nat), k < 4 → s < 32 → (byte x (4 * i + k)).getLsbD s = (decide (s < 8) && x.getLsbD (8 * (15 - (4 * i + k)) + s)) := fun k s _ _ => by
    by_cases h : s < 8
    · rw [byte_bit _ _ _ h]; simp [h]
    · rw [BitVec.getLsbD_of_ge _ _ (by omega)]; simp [h]
  have b0 := hb 0; have b1 := hb 1; have b2 := hb 2; have b3 := hb 3
  simp only [Nat.add_zero] at b0
  by_cases h8 : t < 8
  · rw [b3 t (by decide) ht]
    simp [h8, show t < 16 by omega, show t < 24 by omega]
    congr 1; omega
  · by_cases h16 : t < 16
    · rw [b3 t (by decide) ht, b2 (t - 8) (by decide) (by omega)]
      simp [h8, h16, show t - 8 < 32 by omega, show t - 8 < 8 by omega, show t < 24 by omega]
      congr 1; omega
    · by_cases h24 : t < 24
      · rw [b3 t (by decide) ht, b2 (t - 8) (by decide) (by omega), b1 (t - 16) (by decide) (by omega)]
        simp [h8, h16, h24, show t - 16 < 32 by omega, show t - 16 < 8 by omega, show ¬ t - 8 < 8 by omega]
        congr 1; omega
      · rw [b3 t (by decide) ht, b2 (t - 8) (by decide) (by omega), b1 (t - 16) (by decide) (by omega), b0 (t - 24) (by decide) (by omega)]
        simp [h8, h16, h24, show t - 24 < 32 by omega, show t - 24 < 8 by omega, show ¬ t - 8 < 8 by omega, show ¬ t - 16 < 8 by omega]
        congr 1; omega
end Go.Proofs.YtfcdldcekdbckacDoor

/- The walks of the big-endian reads and writes in a block. -/
import Derived.Test.YtfcdldcekdbckacDoorEnc
import Derived.StillTailTactics
import Derived.BigQuiet
import Derived.BigRegion
import Derived.Handy
import Derived.Lib.Hide
namespace Go.Proofs.YtfcdldcekdbckacDoor
open Go.RowKit Gf

theorem be32_nat (a b c d : BitVec 8) : (be32 a b c d).toNat = a.toNat * 16777216 + b.toNat * 65536 + c.toNat * 256 + d.toNat := by
  have ha := a.isLt; have hb := b.isLt; have hc := c.isLt; have hd := d.isLt
  unfold be32 wor wshl wext
  have e1 : ∀ x : BitVec 8, (x.setWidth 32).toNat = x.toNat := fun x => by rw [BitVec.toNat_setWidth]; have := x.isLt; omega
  have e2 : ∀ (x : BitVec 8) (n : Nat), n ≤ 24 → ((x.setWidth 32) <<< n).toNat = x.toNat <<< n := fun x n hn => by
    rw [BitVec.toNat_shiftLeft, e1, Nat.mod_eq_of_lt]
    rw [Nat.shiftLeft_eq]
    have hx := x.isLt
    have hp : (2 : Nat) ^ n ≤ 2 ^ 24 := Nat.pow_le_pow_right (by decide) hn
    calc x.toNat * 2 ^ n ≤ 255 * 2 ^ 24 := Nat.mul_le_mul (by omega) hp
      _ < 2 ^ 32 := by decide
  rw [BitVec.toNat_or, BitVec.toNat_or, BitVec.toNat_or, e1, e2 _ _ (by decide), e2 _ _ (by decide), e2 _ _ (by decide)]
  rw [Nat.or_comm d.toNat, ← Nat.shiftLeft_add_eq_or_of_lt (by omega : d.toNat < 2 ^ 8)]
  have h2 : c.toNat <<< 8 + d.toNat < 2 ^ 16 := by rw [Nat.shiftLeft_eq]; omega
  rw [Nat.or_comm (c.toNat <<< 8 + d.toNat), ← Nat.shiftLeft_add_eq_or_of_lt h2]
  have h3 : b.toNat <<< 16 + (c.toNat <<< 8 + d.toNat) < 2 ^ 24 := by rw [Nat.shiftLeft_eq, Nat.shiftLeft_eq]; omega
  rw [Nat.or_comm (b.toNat <<< 16 + (c.toNat <<< 8 + d.toNat)), ← Nat.shiftLeft_add_eq_or_of_lt h3]
  rw [Nat.shiftLeft_eq, Nat.shiftLeft_eq, Nat.shiftLeft_eq]
  omega

set_option maxRecDepth 100000 in
set_option maxHeartbeats 1000000 in
theorem be_any (b o n c : Nat) (x0 x1 x2 x3 : BitVec 8) (w : World) (hn : 4 ≤ n) (hn2 : (n : Int) ≤ 9223372036854775807)
    (h0 : w.cell? ⟨b, o, none⟩ = some (.int .u8 (n8 x0))) (h1 : w.cell? ⟨b, o + 1, none⟩ = some (.int .u8 (n8 x1)))
    (h2 : w.cell? ⟨b, o + 2, none⟩ = some (.int .u8 (n8 x2))) (h3 : w.cell? ⟨b, o + 3, none⟩ = some (.int .u8 (n8 x3))) :
    Calls Tryd.prog 42 #[.slice (some ⟨b, o, none⟩) n c] w fun e w' => e = .returned (.int .u32 (n32 (be32 x0 x1 x2 x3))) ∧ ∃ m, w' = w.drewN m := by
  have k0 : (0 : Int) < (n : Int) := by omega
  have k1 : (1 : Int) < (n : Int) := by omega
  have k2 : (2 : Int) < (n : Int) := by omega
  have k3 : (3 : Int) < (n : Int) := by omega
  go_enter Tryd.func42, Tryd.ntmps42
  go_wp2
  go_quiet (fail)
  go_wp2
  go_ret
  exact ⟨rfl, _, rfl⟩

/-- The four bytes of v put into the block x at o. -/
def putW (x : BitVec 128) (o : Nat) (v : BitVec 32) : BitVec 128 :=
  setB (setB (setB (setB x o (wext 8 (wshr v 24))) (o + 1) (wext 8 (wshr v 16))) (o + 2) (wext 8 (wshr v 8))) (o + 3) (wext 8 v)

set_option maxRecDepth 100000 in
set_option maxHeartbeats 1000000 in
theorem put_any (g o n c : Nat) (x : BitVec 128) (v : BitVec 32) (t : TypeId) (w : World) (ho : o + 3 < 16) (hn : 4 ≤ n) (hn2 : (n : Int) ≤ 9223372036854775807)
    (hg : objAt w g = some (.cells (blk x) t (0, 0))) :
    Calls Tryd.prog 45 #[.slice (some ⟨g, o, none⟩) n c, .int .u32 (n32 v)] w fun e w' => e = .returned (.tuple #[]) ∧ objAt w' g = some (.cells (blk (putW x o v)) t (0, 0)) ∧ Keeps g w w' := by
  have k0 : (0 : Int) < (n : Int) := by omega
  have k1 : (1 : Int) < (n : Int) := by omega
  have k2 : (2 : Int) < (n : Int) := by omega
  have k3 : (3 : Int) < (n : Int) := by omega
  have g0 := objAt_set hg o (.int .u8 (n8 (wext 8 (wshr v 24))))
  rw [blk_set _ _ _ (by omega)] at g0
  have g1 := objAt_set g0 (o + 1) (.int .u8 (n8 (wext 8 (wshr v 16))))
  rw [blk_set _ _ _ (by omega)] at g1
  have g2 := objAt_set g1 (o + 2) (.int .u8 (n8 (wext 8 (wshr v 8))))
  rw [blk_set _ _ _ (by omega)] at g2
  have g3 := objAt_set g2 (o + 3) (.int .u8 (n8 (wext 8 v)))
  rw [blk_set _ _ _ (by omega)] at g3
  have c3 := (objAt_cell hg (o + 3)).trans (blk_get _ _ ho)
  have c0' := (objAt_cell hg o).trans (blk_get _ _ (by omega))
  have c1' := (objAt_cell g0 (o + 1)).trans (blk_get _ _ (by omega))
  have c2' := (objAt_cell g1 (o + 2)).trans (blk_get _ _ (by omega))
  have c3' := (objAt_cell g2 (o + 3)).trans (blk_get _ _ (by omega))
  have f0 := objAt_free hg o
  have f1 := objAt_free g0 (o + 1)
  have f2 := objAt_free g1 (o + 2)
  have f3 := objAt_free g2 (o + 3)
  go_enter Tryd.func45, Tryd.ntmps45
  go_wp2
  refine bodyPost_end (v := .tuple #[]) (by simp [results, Tryd.results45, go_sem]) rfl ⟨rfl, g3, ?_⟩
  exact ((((Keeps.refl g w).set _ _).set _ _).set _ _).set _ _
end Go.Proofs.YtfcdldcekdbckacDoor

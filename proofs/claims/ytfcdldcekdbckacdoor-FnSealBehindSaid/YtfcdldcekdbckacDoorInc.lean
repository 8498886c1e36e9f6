/- One added to the last four bytes of a counter. -/
import Derived.Test.YtfcdldcekdbckacDoorBe
import Derived.Test.YtfcdldcekdbckacDoorHeld
namespace Go.Proofs.YtfcdldcekdbckacDoor
open Go Go.RowKit Gf

def wadd {w : Nat} (x y : BitVec w) : BitVec w := x + y
@[go_sem] theorem add1_32 (x : BitVec 32) : IntKind.u32.wrap (n32 x + 1) = n32 (wadd x 1#32) := by
  rw [IntKind.wrap_u32]; unfold wadd n32; rw [BitVec.toNat_add]; simp
/-- One more. -/
def inc4 (x : BitVec 128) : BitVec 128 := putW x 12 (wadd (be32 (byte x 12) (byte x 13) (byte x 14) (byte x 15)) 1#32)
set_option maxHeartbeats 1000000 in
theorem ginc_any (x : BitVec 128) (g : Nat) (t : TypeId) (w : World) (hg : objAt w g = some (.cells (blk x) t (0, 0))) :
    Calls Tryd.prog 37 #[.pointer (some ⟨g, 0, none⟩)] w fun e w' => e = .returned (.tuple #[]) ∧ objAt w' g = some (.cells (blk (inc4 x)) t (0, 0)) ∧ Keeps g w w' := by
  have c0 := (objAt_cell hg 12).trans (blk_get _ _ (by decide))
  have c1 := (objAt_cell hg 13).trans (blk_get _ _ (by decide))
  have c2 := (objAt_cell hg 14).trans (blk_get _ _ (by decide))
  have c3 := (objAt_cell hg 15).trans (blk_get _ _ (by decide))
  go_enter Tryd.func37, Tryd.ntmps37
  go_wp2_with (first
    | (go_at_call 42; (with_reducible refine (be_any g 12 4 4 _ _ _ _ _ (by decide) (by decide) c0 c1 c2 c3).mono ?_); rintro e w1 ⟨rfl, m, rfl⟩; have hg1 := oa_drewN hg m)
    | (go_at_call 45; (with_reducible refine (put_any g 12 4 4 x _ t _ (by decide) (by decide) (by decide) hg1).mono ?_); rintro e w2 ⟨rfl, g2, hk⟩))
  exact bodyPost_end (results_none rfl _ _ _) rfl ⟨rfl, g2, (keeps_drewN (Keeps.refl g w) m).trans hk⟩
end Go.Proofs.YtfcdldcekdbckacDoor

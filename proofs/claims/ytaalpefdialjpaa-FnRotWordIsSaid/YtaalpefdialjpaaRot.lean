/- The walk of a word's turn. -/
import Derived.Test.YtaalpefdialjpaaClose
import Derived.BigQuiet
import Derived.Handy
import Derived.Lib.Hide
namespace Go.Proofs.Ytaalpefdialjpaa
open Go.RowKit
def rot (x : BitVec 32) : BitVec 32 := wor (wshl x 8) (wshr x 24)
theorem rot_bit (x : BitVec 32) (i : Nat) (h : i < 32) : (rot x).getLsbD i = x.getLsbD ((i + 24) % 32) := by
  unfold rot wor wshl wshr
  rw [BitVec.getLsbD_or, BitVec.getLsbD_shiftLeft, BitVec.getLsbD_ushiftRight]
  by_cases h8 : i < 8
  · have e : (i + 24) % 32 = 24 + i := by omega
    simp [h, h8, e]
  · have e : (i + 24) % 32 = i - 8 := by omega
    have e2 : x.getLsbD (24 + i) = false := BitVec.getLsbD_of_ge _ _ (by omega)
    simp [h, h8, e, e2]
theorem rot4 (x : BitVec 32) : rot (rot (rot (rot x))) = x := by
  apply BitVec.eq_of_getLsbD_eq
  intro i hi
  rw [rot_bit _ _ hi, rot_bit _ _ (by omega), rot_bit _ _ (by omega), rot_bit _ _ (by omega)]
  congr 1
  omega
theorem rot1 : n32 (rot 1#32) = 256 := by decide
theorem one32 : n32 1#32 = 1 := by decide
theorem rotw_any (x : BitVec 32) (w : World) :
    Calls Try.prog 11 #[.int .u32 (n32 x)] w fun e w' => e = .returned (.int .u32 (n32 (rot x))) ∧ w' = w := by
  go_enter Try.func11, Try.ntmps11
  go_wp2
  go_ret
  exact ⟨rfl, rfl⟩
theorem zrot_any (x : BitVec 32) (w : World) :
    Calls Try.prog 8 #[.int .u32 (n32 x)] w fun e w' => e = .returned (.int .u32 (n32 (rot x))) ∧ w' = w := by
  go_enter Try.func8, Try.ntmps8
  go_wp2_with (go_at_call 11; (with_reducible refine (rotw_any _ _).mono ?_); rintro e w1 ⟨rfl, rfl⟩)
  go_ret
  exact ⟨rfl, rfl⟩
theorem irot_any (x : BitVec 32) (w : World) :
    Calls Try.prog 5 #[.int .u32 (n32 x)] w fun e w' => e = .returned (.int .u32 (n32 (rot x))) ∧ w' = w := by
  go_enter Try.func5, Try.ntmps5
  go_wp2_with (go_at_call 8; (with_reducible refine (zrot_any _ _).mono ?_); rintro e w1 ⟨rfl, rfl⟩)
  go_ret
  exact ⟨rfl, rfl⟩
theorem irot_one (w : World) :
    Calls Try.prog 5 #[.int .u32 1] w fun e w' => e = .returned (.int .u32 256) ∧ w' = w := by
  have h := irot_any 1#32 w
  rwa [one32, rot1] at h
theorem weq_refl {n : Nat} (x : BitVec n) : weq x x = true := by unfold weq; simp
theorem rot_is (x : BitVec 32) (w : World) :
    Calls Try.prog 3 #[.int .u32 (n32 x)] w fun e w' => e = .returned (.bool true) ∧ Below w.heap.size w w' := by
  have h1 : wor (wshl x 8) (wshr x 24) = rot x := rfl
  have h2 : weq (rot x) (rot x) = true := weq_refl _
  have h3 : weq x x = true := weq_refl _
  have h4 : n32 (rot (rot (rot (rot x)))) = n32 x := by rw [rot4]
  go_enter Try.func3, Try.ntmps3
  go_wp2_with (first | (go_at_call 5; (with_reducible refine (irot_one _).mono ?_); rintro e w1 ⟨rfl, rfl⟩) | (go_at_call 5; (with_reducible refine (irot_any _ _).mono ?_); rintro e w1 ⟨rfl, rfl⟩))
  go_ret
  exact ⟨rfl, Below.refl _ _⟩
end Go.Proofs.Ytaalpefdialjpaa

/- The hash of a list of inputs, and a block as a row. -/
import Derived.Test.YtfcdldcekdbckacDoorGh2
import Derived.Test.YtfcdldcekdbckacDoorXorP
namespace Go.Proofs.YtfcdldcekdbckacDoor
open Go Go.RowKit Gf

/-- The hash of the inputs by the key. -/
def hashOf (inp : List (List (BitVec 8))) (h : BitVec 128) : BitVec 128 := yk (seqOf inp) h (seqOf inp).length
theorem rowAt_blk {Y : Nat} {W : World} {b : Nat} {x : BitVec 128} {t : TypeId} {fr : Nat × Nat} (c : Nat) (h : objAt W b = some (.cells (blk x) t fr)) (hne : b ≠ Y) (hc : 16 ≤ c) (hc2 : (c : Int) ≤ 9223372036854775807) :
    RowAt Y W (.slice (some ⟨b, 0, none⟩) 16 c) (bytesOf x) := by
  refine ⟨_, c, by rw [bytesOf_length], by rw [bytesOf_length]; exact hc, hc2, .inr ⟨b, 0, rfl, hne, oa_lt h, fun i v hv => ?_⟩⟩
  have hi : i < 16 := by have := (List.getElem?_eq_some_iff.1 hv).1; rwa [bytesOf_length] at this
  rw [bytesOf_get x i hi] at hv
  rw [Nat.zero_add, ← Option.some.inj hv]
  exact (objAt_cell h i).trans (blk_get x i hi)
end Go.Proofs.YtfcdldcekdbckacDoor

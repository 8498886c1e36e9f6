/- Blocks encrypted one behind the other, and the code of a message that is made of them. Plain. -/
import Derived.Test.YtfcdldcekdbckaeDoorXor
namespace Go.Proofs.YtfcdldcekdbckaeDoor
open Go Go.RowKit Gf

theorem xorL_bytes (x y : BitVec 128) : xorL (bytesOf x) (bytesOf y) = bytesOf (x ^^^ y) := by
  refine List.ext_getElem? fun i => ?_
  by_cases hi : i < 16
  · rw [xorL_get _ _ i _ _ (bytesOf_get x i hi) (bytesOf_get y i hi), bytesOf_get _ i hi, byte_xor]
  · rw [List.getElem?_eq_none (by rw [xorL_length, bytesOf_length, bytesOf_length]; omega), List.getElem?_eq_none (by rw [bytesOf_length]; omega)]
/-- A block out of bytes. -/
def blkAt (bs : List (BitVec 8)) (i : Nat) : BitVec 128 := ofBytes fun j => bs.getD (16 * i + j) 0#8
theorem blkAt_bytes (bs : List (BitVec 8)) (i : Nat) (h : 16 * i + 16 ≤ bs.length) : bytesOf (blkAt bs i) = (bs.drop (16 * i)).take 16 := by
  refine List.ext_getElem? fun j => ?_
  by_cases hj : j < 16
  · rw [bytesOf_get _ j hj, List.getElem?_take_of_lt hj, List.getElem?_drop]
    unfold blkAt
    rw [byte_of _ j hj, List.getD_eq_getElem?_getD, List.getElem?_eq_getElem (by omega)]; rfl
  · rw [List.getElem?_eq_none (by rw [bytesOf_length]; omega), List.getElem?_eq_none (by rw [List.length_take]; omega)]
theorem blkAt_append (bs cs : List (BitVec 8)) (i : Nat) (h : 16 * i + 16 ≤ bs.length) : blkAt (bs ++ cs) i = blkAt bs i := bytes_ext fun j hj => by
  unfold blkAt
  rw [byte_of _ j hj, byte_of _ j hj, List.getD_eq_getElem?_getD, List.getD_eq_getElem?_getD, List.getElem?_append_left (by omega)]
theorem blkAt_last (bs : List (BitVec 8)) (m : BitVec 128) (n : Nat) (h : bs.length = 16 * n) : blkAt (bs ++ bytesOf m) n = m := bytes_ext fun j hj => by
  unfold blkAt
  rw [byte_of _ j hj, List.getD_eq_getElem?_getD, List.getElem?_append_right (by omega), h, Nat.add_sub_cancel_left, bytesOf_get m j hj]; rfl
/-- The chain behind so many blocks. -/
def chn (E : BitVec 128 → BitVec 128) (bs : List (BitVec 8)) : Nat → BitVec 128
  | 0 => 0#128
  | k + 1 => E (blkAt bs k ^^^ chn E bs k)
theorem chn_append (E : BitVec 128 → BitVec 128) (bs cs : List (BitVec 8)) : ∀ (k : Nat), 16 * k ≤ bs.length → chn E (bs ++ cs) k = chn E bs k
  | 0, _ => rfl
  | k + 1, h => by
    show E (blkAt (bs ++ cs) k ^^^ chn E (bs ++ cs) k) = E (blkAt bs k ^^^ chn E bs k)
    rw [blkAt_append bs cs k (by omega), chn_append E bs cs k (by omega)]
/-- The chain's blocks. -/
def chnL (E : BitVec 128 → BitVec 128) (bs : List (BitVec 8)) : Nat → List (BitVec 8)
  | 0 => []
  | k + 1 => chnL E bs k ++ bytesOf (chn E bs (k + 1))
theorem chnL_length (E : BitVec 128 → BitVec 128) (bs : List (BitVec 8)) : ∀ k, (chnL E bs k).length = 16 * k
  | 0 => rfl
  | k + 1 => by rw [chnL, List.length_append, chnL_length E bs k, bytesOf_length]; omega
theorem chnL_last (E : BitVec 128 → BitVec 128) (bs : List (BitVec 8)) (k : Nat) : (chnL E bs (k + 1)).drop (16 * k) = bytesOf (chn E bs (k + 1)) := by
  rw [chnL, List.drop_append_of_le_length (by rw [chnL_length]; omega)]
  rw [List.drop_eq_nil_of_le (by rw [chnL_length]; omega), List.nil_append]
/-- The first key behind the cipher. -/
def k1Of (E : BitVec 128 → BitVec 128) : BitVec 128 := setB (E 0#128 <<< 1) 15 (wxor (byte (E 0#128 <<< 1) 15) (wmul (wshr (byte (E 0#128) 0) 7) 135#8))
/-- The code of whole blocks. -/
def macB (E : BitVec 128 → BitVec 128) (bs : List (BitVec 8)) (n : Nat) : BitVec 128 := E (k1Of E ^^^ (blkAt bs (n - 1) ^^^ chn E bs (n - 1)))
theorem mac_chain (E : BitVec 128 → BitVec 128) (bs : List (BitVec 8)) (m : BitVec 128) (n : Nat) (h : bs.length = 16 * n) : macB E (bytesOf (m ^^^ chn E bs n)) 1 = macB E (bs ++ bytesOf m) (n + 1) := by
  unfold macB
  have e : blkAt (bytesOf (m ^^^ chn E bs n)) 0 = m ^^^ chn E bs n := blkAt_last [] _ 0 rfl
  rw [Nat.sub_self, Nat.add_sub_cancel, e, blkAt_last bs m n h, chn_append E bs _ n (by omega)]
  show E (k1Of E ^^^ ((m ^^^ chn E bs n) ^^^ 0#128)) = _
  rw [BitVec.xor_zero]
end Go.Proofs.YtfcdldcekdbckaeDoor

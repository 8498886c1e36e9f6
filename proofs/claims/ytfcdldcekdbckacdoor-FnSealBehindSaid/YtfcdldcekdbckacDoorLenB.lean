/- Lengths in bits, as eight bytes; two blocks added into a third. -/
import Derived.Test.YtfcdldcekdbckacDoorHs
namespace Go.Proofs.YtfcdldcekdbckacDoor
open Go Go.RowKit Gf

theorem be64_get (v : BitVec 64) (i : Nat) (h : i < 8) : (be64 v)[i]? = some (w8 v i) := by simp [be64, h]
/-- A text's length in bits. -/
def bits8 (n : Nat) : BitVec 64 := BitVec.ofNat 64 (8 * n)

/-- The first k bytes of v put into the block x at o. -/
def put8 (x : BitVec 128) (o : Nat) (v : BitVec 64) (k : Nat) : BitVec 128 := ofBytes fun j => if o ≤ j ∧ j < o + k then w8 v (j - o) else byte x j
theorem put8_zero (x : BitVec 128) (o : Nat) (v : BitVec 64) : put8 x o v 0 = x := bytes_ext fun i hi => by
  unfold put8; rw [byte_of _ i hi, if_neg (by omega)]
theorem put8_succ (x : BitVec 128) (o : Nat) (v : BitVec 64) (k : Nat) : setB (put8 x o v k) (o + k) (w8 v k) = put8 x o v (k + 1) := bytes_ext fun i hi => by
  rw [byte_setB _ _ _ _ hi]
  unfold put8
  rw [byte_of _ i hi, byte_of _ i hi]
  by_cases e : i = o + k
  · subst e
    rw [if_pos rfl, if_pos (by omega), show o + k - o = k by omega]
  · rw [if_neg e]
    by_cases h2 : o ≤ i ∧ i < o + k
    · rw [if_pos h2, if_pos (by omega)]
    · rw [if_neg h2, if_neg (by omega)]
/-- The block of two lengths. -/
def lenB (a b : BitVec 64) : BitVec 128 := put8 (put8 0#128 0 a 8) 8 b 8
theorem bytes_lenB (a b : BitVec 64) : bytesOf (lenB a b) = be64 a ++ be64 b := by
  refine List.ext_getElem? fun i => ?_
  by_cases hi : i < 16
  · rw [bytesOf_get _ i hi]
    unfold lenB
    have e : byte (put8 (put8 0#128 0 a 8) 8 b 8) i = if 8 ≤ i ∧ i < 8 + 8 then w8 b (i - 8) else byte (put8 0#128 0 a 8) i := by unfold put8; exact byte_of _ i hi
    have e2 : byte (put8 0#128 0 a 8) i = if 0 ≤ i ∧ i < 0 + 8 then w8 a (i - 0) else byte 0#128 i := by unfold put8; exact byte_of _ i hi
    rw [e]
    by_cases h : i < 8
    · rw [if_neg (by omega), e2, if_pos (by omega), List.getElem?_append_left (by rw [be64_length]; exact h), be64_get _ _ h]; rfl
    · rw [if_pos (by omega), List.getElem?_append_right (by rw [be64_length]; omega), be64_length, be64_get _ _ (by omega)]
  · rw [List.getElem?_eq_none (by rw [bytesOf_length]; omega), List.getElem?_eq_none (by rw [List.length_append, be64_length, be64_length]; omega)]
theorem bytes_len8 (b : BitVec 64) : bytesOf (put8 0#128 8 b 8) = List.replicate 8 0#8 ++ be64 b := by
  refine List.ext_getElem? fun i => ?_
  by_cases hi : i < 16
  · rw [bytesOf_get _ i hi]
    have e : byte (put8 0#128 8 b 8) i = if 8 ≤ i ∧ i < 8 + 8 then w8 b (i - 8) else byte 0#128 i := by unfold put8; exact byte_of _ i hi
    rw [e]
    by_cases h : i < 8
    · rw [if_neg (by omega), byte_zero, List.getElem?_append_left (by rw [List.length_replicate]; exact h), List.getElem?_replicate, if_pos h]
    · rw [if_pos (by omega), List.getElem?_append_right (by rw [List.length_replicate]; omega), List.length_replicate, be64_get _ _ (by omega)]
  · rw [List.getElem?_eq_none (by rw [bytesOf_length]; omega), List.getElem?_eq_none (by rw [List.length_append, List.length_replicate, be64_length]; omega)]

/-- The first n bytes of x xor y, the others of d. -/
def mixTo (x y d : BitVec 128) (n : Nat) : BitVec 128 := ofBytes fun j => if j < n then byte x j ^^^ byte y j else byte d j
theorem mixTo_zero (x y d : BitVec 128) : mixTo x y d 0 = d := bytes_ext fun i hi => by unfold mixTo; rw [byte_of _ i hi]; simp
theorem mixTo_succ (x y d : BitVec 128) (n : Nat) (hn : n < 16) : setB (mixTo x y d n) n (byte x n ^^^ byte y n) = mixTo x y d (n + 1) :=
  bytes_ext fun i hi => by
    rw [byte_setB _ _ _ _ hi]
    unfold mixTo
    rw [byte_of _ i hi, byte_of _ i hi]
    by_cases h : i = n
    · subst h; simp
    · have e : (i < n + 1) = (i < n) := by rw [eq_iff_iff]; omega
      simp [h, e]
theorem mixTo_all (x y d : BitVec 128) : mixTo x y d 16 = x ^^^ y := bytes_ext fun i hi => by
  unfold mixTo; rw [byte_of _ i hi, byte_xor]; simp [hi]

/-- The first counter of a nonce. -/
def firstOf (h : BitVec 128) (nonce : List (BitVec 8)) : BitVec 128 :=
  if nonce.length = 12 then ofBytes fun i => if i < 12 then nonce.getD i 0#8 else if i = 15 then 1#8 else 0#8
  else hashOf [nonce, bytesOf (put8 0#128 8 (bits8 nonce.length) 8)] h
/-- The tag of a ciphertext c and data d. -/
def tagOf (h mask : BitVec 128) (c d : List (BitVec 8)) : BitVec 128 := hashOf [d, c, bytesOf (lenB (bits8 d.length) (bits8 c.length))] h ^^^ mask
end Go.Proofs.YtfcdldcekdbckacDoor

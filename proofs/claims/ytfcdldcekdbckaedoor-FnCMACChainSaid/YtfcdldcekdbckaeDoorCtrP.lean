/- Bytes encrypted in counter mode, piece by piece: the plain laws. -/
import Derived.Test.YtfcdldcekdbckaeDoorCtrK
namespace Go.Proofs.YtfcdldcekdbckaeDoor
open Go Go.RowKit Gf

/-- What bytes that stand at place o are encrypted to. -/
def ctrL (E : BitVec 128 → BitVec 128) (c : BitVec 128) (o : Nat) (bs : List (BitVec 8)) : List (BitVec 8) := xorL bs (ksL E c o bs.length)
theorem ctrL_length (E : BitVec 128 → BitVec 128) (c : BitVec 128) (o : Nat) (bs : List (BitVec 8)) : (ctrL E c o bs).length = bs.length := by unfold ctrL; rw [xorL_length, ksL_length, Nat.min_self]
theorem xorL_drop (xs ys : List (BitVec 8)) (p : Nat) : (xorL xs ys).drop p = xorL (xs.drop p) (ys.drop p) := List.drop_zipWith
theorem xorL_take (xs ys : List (BitVec 8)) (p : Nat) : (xorL xs ys).take p = xorL (xs.take p) (ys.take p) := List.take_zipWith
theorem ksL_drop (E : BitVec 128 → BitVec 128) (c : BitVec 128) (o n p : Nat) : (ksL E c o n).drop p = ksL E c (o + p) (n - p) := by
  by_cases h : p ≤ n
  · have h2 := ksL_append E c o p (n - p)
    rw [show p + (n - p) = n by omega] at h2
    rw [← h2, List.drop_left' (ksL_length _ _ _ _)]
  · rw [List.drop_eq_nil_of_le (by rw [ksL_length]; omega), show n - p = 0 by omega]; rfl
theorem ksL_take (E : BitVec 128 → BitVec 128) (c : BitVec 128) (o n p : Nat) (h : p ≤ n) : (ksL E c o n).take p = ksL E c o p := by
  have h2 := ksL_append E c o p (n - p)
  rw [show p + (n - p) = n by omega] at h2
  rw [← h2, List.take_left' (ksL_length _ _ _ _)]
/-- A piece of what comes out. -/
theorem ctrL_piece (E : BitVec 128 → BitVec 128) (c : BitVec 128) (o p K q : Nat) (bs : List (BitVec 8)) (h : p + K ≤ bs.length) (hq : 16 * q = o + p) :
    xorL ((bs.drop p).take K) (ksL E (cadd c q) 0 K) = ((ctrL E c o bs).drop p).take K := by
  unfold ctrL
  rw [xorL_drop, xorL_take, ksL_drop, ksL_take _ _ _ _ _ (by omega), ksL_shift, hq, Nat.add_zero]
/-- What stands there is put on. -/
theorem put_piece (cs : Array Value) (od p K : Nat) (R : List (BitVec 8)) (h : p + K ≤ R.length) : putL (putL cs od (R.take p)) (od + p) ((R.drop p).take K) = putL cs od (R.take (p + K)) := by
  have h2 := putL_append cs od (R.take p) ((R.drop p).take K)
  rw [List.length_take, Nat.min_eq_left (by omega)] at h2
  rw [h2, List.take_add]

/-- Bytes laid among zeros. -/
def amid (bo : Nat) (l : List (BitVec 8)) : List (BitVec 8) := List.replicate bo 0#8 ++ l ++ List.replicate (16 - bo - l.length) 0#8
theorem amid_length (bo : Nat) (l : List (BitVec 8)) (h : bo + l.length ≤ 16) : (amid bo l).length = 16 := by
  unfold amid
  rw [List.length_append, List.length_append, List.length_replicate, List.length_replicate]
  omega
theorem putL_get (cs : Array Value) (o : Nat) (bs : List (BitVec 8)) (i : Nat) (h : o + bs.length ≤ cs.size) : (putL cs o bs)[i]? = if o ≤ i ∧ i < o + bs.length then (bs[i - o]?).map (fun x => .int .u8 (n8 x)) else cs[i]? := by
  by_cases hi : o ≤ i ∧ i < o + bs.length
  · rw [if_pos hi]
    have e : bs[i - o]? = some (bs[i - o]'(by omega)) := List.getElem?_eq_getElem (by omega)
    have := putL_in cs o bs (i - o) _ e h
    rw [show o + (i - o) = i by omega] at this
    rw [this, e]; rfl
  · rw [if_neg hi, putL_out _ _ _ _ (by omega)]
theorem put_amid (bo : Nat) (l : List (BitVec 8)) (h : bo + l.length ≤ 16) : putL (bcells (List.replicate 16 0#8)).toArray bo l = (bcells (amid bo l)).toArray := by
  apply Array.ext_getElem?
  intro i
  rw [putL_get _ _ _ _ (by simp [bcells]; exact h), tA (bcells (amid bo l)) i, tA (bcells (List.replicate 16 0#8)) i, bcells_get, bcells_get]
  unfold amid
  by_cases h1 : i < bo
  · rw [if_neg (by omega), List.append_assoc, List.getElem?_append_left (by rw [List.length_replicate]; exact h1), List.getElem?_replicate, List.getElem?_replicate, if_pos (by omega), if_pos h1]
  · by_cases h2 : i < bo + l.length
    · rw [if_pos (by omega), List.getElem?_append_left (by rw [List.length_append, List.length_replicate]; exact h2), List.getElem?_append_right (by rw [List.length_replicate]; omega), List.length_replicate]
    · rw [if_neg (by omega), List.getElem?_append_right (by rw [List.length_append, List.length_replicate]; omega), List.length_append, List.length_replicate, List.getElem?_replicate, List.getElem?_replicate]
      by_cases h3 : i < 16
      · rw [if_pos h3, if_pos (by omega)]
      · rw [if_neg h3, if_neg (by omega)]
theorem amid_cut (bo : Nat) (l : List (BitVec 8)) : ((amid bo l).drop bo).take l.length = l := by
  unfold amid
  rw [List.append_assoc, List.drop_left' (by rw [List.length_replicate]), List.take_left' rfl]
/-- A part of a block. -/
theorem part_block (E : BitVec 128 → BitVec 128) (c : BitVec 128) (bo : Nat) (l : List (BitVec 8)) (h : bo + l.length ≤ 16) :
    ((xorL (amid bo l) (ksL E c 0 16)).drop bo).take l.length = xorL l (ksL E c bo l.length) := by
  rw [xorL_drop, xorL_take, amid_cut, ksL_drop, Nat.zero_add, ksL_take _ _ _ _ _ (by omega)]
theorem ctrL_part (E : BitVec 128 → BitVec 128) (c : BitVec 128) (o p K q bo : Nat) (bs : List (BitVec 8)) (h : p + K ≤ bs.length) (hq : 16 * q + bo = o + p) :
    xorL ((bs.drop p).take K) (ksL E (cadd c q) bo K) = ((ctrL E c o bs).drop p).take K := by
  unfold ctrL
  rw [xorL_drop, xorL_take, ksL_drop, ksL_take _ _ _ _ _ (by omega), ksL_shift, hq]
/-- The address behind a cut at k: where nothing is left it may be the old one. -/
theorem if_addr (X x k cap m : Nat) (hk : k ≤ m) (hm : m ≤ cap) : ∃ x' : Nat, (if cap = k then some ({ block := X, off := x } : Addr) else some { block := X, off := x + k }) = some ⟨X, x', none⟩ ∧ (m - k = 0 ∨ x' = x + k) := by
  by_cases h : cap = k
  · exact ⟨x, by rw [if_pos h], .inl (by omega)⟩
  · exact ⟨x + k, by rw [if_neg h], .inr rfl⟩
theorem blk_zero16 : blk 0#128 = (bcells (List.replicate 16 0#8)).toArray := by rw [blk_bcells]; rfl
theorem take_min (l : List (BitVec 8)) (n : Nat) : l.take n = l.take (min n l.length) := by
  by_cases h : n ≤ l.length
  · rw [Nat.min_eq_left h]
  · rw [Nat.min_eq_right (by omega), List.take_of_length_le (by omega), List.take_of_length_le (Nat.le_refl _)]
end Go.Proofs.YtfcdldcekdbckaeDoor

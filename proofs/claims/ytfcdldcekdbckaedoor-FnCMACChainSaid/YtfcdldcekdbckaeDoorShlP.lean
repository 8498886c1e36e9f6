/- A block moved by a bit to the left, byte by byte. Plain Lean. -/
import Derived.Test.YtfcdldcekdbckaeDoorBytes
namespace Go.Proofs.Gf

theorem byte_shl (x : BitVec 128) (i : Nat) (hi : i < 16) : byte (x <<< 1) i = byte x i <<< 1 ||| (if i = 15 then 0#8 else byte x (i + 1) >>> 7) := by
  apply BitVec.eq_of_getLsbD_eq
  intro t ht
  rw [byte_bit _ _ _ ht, BitVec.getLsbD_or, BitVec.getLsbD_shiftLeft, BitVec.getLsbD_shiftLeft]
  by_cases h0 : t = 0
  · subst h0
    by_cases h15 : i = 15
    · subst h15; simp
    · rw [if_neg h15, BitVec.getLsbD_ushiftRight, byte_bit _ (i + 1) _ (by omega)]
      have e : 8 * (15 - (i + 1)) + (7 + 0) = 8 * (15 - i) + 0 - 1 := by omega
      rw [e]
      have e1 : 8 * (15 - i) + 0 < 128 := by omega
      have e2 : ¬ 8 * (15 - i) + 0 < 1 := by omega
      simp only [e1, e2, decide_true, decide_false, Bool.not_false, Bool.true_and]
      simp
  · have e1 : 8 * (15 - i) + t < 128 := by omega
    have e2 : ¬ 8 * (15 - i) + t < 1 := by omega
    have e3 : ¬ t < 1 := by omega
    have e4 : (if i = 15 then 0#8 else byte x (i + 1) >>> 7).getLsbD t = false := by
      split
      · simp
      · rw [BitVec.getLsbD_ushiftRight]; exact BitVec.getLsbD_of_ge _ _ (by omega)
    rw [e4, byte_bit _ _ _ (by omega)]
    have e5 : 8 * (15 - i) + t - 1 = 8 * (15 - i) + (t - 1) := by omega
    simp [e1, e2, e3, ht, e5]

/-- The first k bytes moved, the others zero. -/
def lTo (x : BitVec 128) (k : Nat) : BitVec 128 := ofBytes (fun i => if i < k then byte (x <<< 1) i else 0#8)
theorem lTo_zero (x : BitVec 128) : lTo x 0 = 0#128 := bytes_ext fun i hi => by unfold lTo; rw [byte_of _ i hi, byte_zero]; simp
theorem lTo_all (x : BitVec 128) : lTo x 16 = x <<< 1 := bytes_ext fun i hi => by unfold lTo; rw [byte_of _ i hi]; simp [hi]
theorem lTo_succ (x : BitVec 128) (k : Nat) (hk : k < 16) : setB (lTo x k) k (byte (x <<< 1) k) = lTo x (k + 1) := bytes_ext fun i hi => by
  rw [byte_setB _ _ _ _ hi]
  unfold lTo
  rw [byte_of _ i hi, byte_of _ i hi]
  by_cases h : i = k
  · subst h; simp
  · have e : (i < k + 1) = (i < k) := by rw [eq_iff_iff]; omega
    simp [h, e]
theorem byte_lTo_mid (x : BitVec 128) (k : Nat) (b : BitVec 8) (hk : k < 16) : byte (setB (lTo x k) k b) k = b := by rw [byte_setB _ _ _ _ hk]; simp
theorem setB_twice (x : BitVec 128) (k : Nat) (b c : BitVec 8) : setB (setB x k b) k c = setB x k c := bytes_ext fun i hi => by
  rw [byte_setB _ _ _ _ hi, byte_setB _ _ _ _ hi, byte_setB _ _ _ _ hi]; split <;> rfl
theorem lTo_last (x : BitVec 128) : setB (lTo x 15) 15 (byte x 15 <<< 1) = lTo x 16 := by
  rw [← lTo_succ x 15 (by decide), byte_shl x 15 (by decide)]; simp
theorem lTo_mid (x : BitVec 128) (k : Nat) (hk : k < 15) : setB (setB (lTo x k) k (byte x k <<< 1)) k (byte x k <<< 1 ||| byte x (k + 1) >>> 7) = lTo x (k + 1) := by
  rw [setB_twice, ← lTo_succ x k (by omega), byte_shl x k (by omega), if_neg (by omega)]

/-- The bytes from k on moved, the others as they were. -/
def rTo (x : BitVec 128) (k : Nat) : BitVec 128 := ofBytes (fun i => if i < k then byte x i else byte (x <<< 1) i)
/-- The bit that falls out of byte k. -/
def outB (x : BitVec 128) (k : Nat) : BitVec 8 := if k = 16 then 0#8 else byte x k >>> 7
theorem rTo_zero (x : BitVec 128) : rTo x 0 = x <<< 1 := bytes_ext fun i hi => by unfold rTo; rw [byte_of _ i hi]; simp
theorem rTo_all (x : BitVec 128) : rTo x 16 = x := bytes_ext fun i hi => by unfold rTo; rw [byte_of _ i hi]; simp [hi]
theorem byte_rTo (x : BitVec 128) (k : Nat) (hk : k < 16) : byte (rTo x (k + 1)) k = byte x k := by unfold rTo; rw [byte_of _ k hk]; simp
theorem outB_all (x : BitVec 128) : outB x 16 = 0#8 := rfl
theorem outB_lt (x : BitVec 128) (k : Nat) (hk : k < 16) : outB x k = byte x k >>> 7 := by unfold outB; rw [if_neg (by omega)]
theorem rTo_succ (x : BitVec 128) (k : Nat) (hk : k < 16) : setB (rTo x (k + 1)) k (byte x k <<< 1 ||| outB x (k + 1)) = rTo x k := bytes_ext fun i hi => by
  have hb := byte_shl x k hk
  have ho : outB x (k + 1) = if k = 15 then 0#8 else byte x (k + 1) >>> 7 := by
    unfold outB
    by_cases h : k = 15
    · subst h; rfl
    · rw [if_neg (by omega), if_neg h]
  rw [ho, ← hb, byte_setB _ _ _ _ hi]
  unfold rTo
  rw [byte_of _ i hi, byte_of _ i hi]
  by_cases h : i = k
  · subst h; simp
  · have e : (i < k + 1) = (i < k) := by rw [eq_iff_iff]; omega
    simp [h, e]
end Go.Proofs.Gf

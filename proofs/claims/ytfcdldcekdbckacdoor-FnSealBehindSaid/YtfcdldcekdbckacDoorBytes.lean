/- 128 bits as sixteen bytes, the highest first. Plain Lean, no program in sight. -/
import Derived.Test.YtfcdldcekdbckacDoorClm
namespace Go.Proofs.Gf

/-- The word with the bits p. -/
def bld (p : Nat → Bool) : Nat → BitVec 128
  | 0 => 0#128
  | n + 1 => bld p n ^^^ (if p n then 1#128 <<< n else 0#128)

theorem bld_bit (p : Nat → Bool) (n j : Nat) (hj : j < 128) : (bld p n).getLsbD j = (decide (j < n) && p j) := by
  induction n with
  | zero => simp [bld]
  | succ n ih =>
    simp only [bld, BitVec.getLsbD_xor, ih]
    have h1 : (1#128 <<< n).getLsbD j = decide (j = n) := by
      simp only [BitVec.getLsbD_shiftLeft, BitVec.getLsbD_one]
      by_cases h : j = n
      · subst h; simp; omega
      · simp [h]; omega
    by_cases h : j = n
    · subst h
      cases hx : p j <;> simp [h1]
    · have : (if p n then 1#128 <<< n else 0#128).getLsbD j = false := by
        cases p n
        · simp
        · simp [h1, h]
      rw [this]
      have e : decide (j < n + 1) = decide (j < n) := by
        rw [Bool.eq_iff_iff]; simp; omega
      rw [e]; simp

/-- Byte i, the highest first. -/
def byte (x : BitVec 128) (i : Nat) : BitVec 8 := x.extractLsb' (8 * (15 - i)) 8
/-- The block of sixteen bytes. -/
def ofBytes (f : Nat → BitVec 8) : BitVec 128 := bld (fun t => (f (15 - t / 8)).getLsbD (t % 8)) 128

theorem byte_bit (x : BitVec 128) (i t : Nat) (ht : t < 8) : (byte x i).getLsbD t = x.getLsbD (8 * (15 - i) + t) := by
  unfold byte
  rw [BitVec.getLsbD_extractLsb']
  simp [ht]

theorem bytes_ext {x y : BitVec 128} (h : ∀ i, i < 16 → byte x i = byte y i) : x = y := by
  apply BitVec.eq_of_getLsbD_eq
  intro t ht
  have h1 := h (15 - t / 8) (by omega)
  have h2 := congrArg (fun b => b.getLsbD (t % 8)) h1
  rw [byte_bit _ _ _ (by omega), byte_bit _ _ _ (by omega)] at h2
  have e : 8 * (15 - (15 - t / 8)) + t % 8 = t := by omega
  rwa [e] at h2

theorem byte_of (f : Nat → BitVec 8) (i : Nat) (hi : i < 16) : byte (ofBytes f) i = f i := by
  apply BitVec.eq_of_getLsbD_eq
  intro t ht
  rw [byte_bit _ _ _ ht]
  unfold ofBytes
  rw [bld_bit _ _ _ (by omega)]
  have e1 : (8 * (15 - i) + t) / 8 = 15 - i := by omega
  have e2 : (8 * (15 - i) + t) % 8 = t := by omega
  have e3 : 15 - (15 - i) = i := by omega
  simp only [e1, e2, e3]
  have : 8 * (15 - i) + t < 128 := by omega
  simp [this]

theorem ofBytes_byte (x : BitVec 128) : ofBytes (byte x) = x := bytes_ext fun i hi => byte_of _ i hi

theorem ofBytes_congr {f g : Nat → BitVec 8} (h : ∀ i, i < 16 → f i = g i) : ofBytes f = ofBytes g :=
  bytes_ext fun i hi => by rw [byte_of f i hi, byte_of g i hi, h i hi]

/-- The block with byte i set. -/
def setB (x : BitVec 128) (i : Nat) (b : BitVec 8) : BitVec 128 := ofBytes (fun j => if j = i then b else byte x j)
theorem byte_setB (x : BitVec 128) (i : Nat) (b : BitVec 8) (j : Nat) (hj : j < 16) : byte (setB x i b) j = if j = i then b else byte x j := byte_of _ j hj

theorem byte_xor (x y : BitVec 128) (i : Nat) : byte (x ^^^ y) i = byte x i ^^^ byte y i := by
  apply BitVec.eq_of_getLsbD_eq
  intro t ht
  rw [byte_bit _ _ _ ht, BitVec.getLsbD_xor, BitVec.getLsbD_xor, byte_bit _ _ _ ht, byte_bit _ _ _ ht]
theorem byte_zero (i : Nat) : byte 0#128 i = 0#8 := by
  apply BitVec.eq_of_getLsbD_eq
  intro t ht
  rw [byte_bit _ _ _ ht]; simp

/-- The first n bytes of x xor y, the others of x. -/
def xorTo (x y : BitVec 128) (n : Nat) : BitVec 128 := ofBytes (fun j => if j < n then byte x j ^^^ byte y j else byte x j)
theorem xorTo_zero (x y : BitVec 128) : xorTo x y 0 = x := bytes_ext fun i hi => by unfold xorTo; rw [byte_of _ i hi]; simp
theorem xorTo_succ (x y : BitVec 128) (n : Nat) (hn : n < 16) : setB (xorTo x y n) n (byte (xorTo x y n) n ^^^ byte y n) = xorTo x y (n + 1) :=
  bytes_ext fun i hi => by
    rw [byte_setB _ _ _ _ hi]
    unfold xorTo
    rw [byte_of _ i hi, byte_of _ i hi, byte_of _ n hn]
    by_cases h : i = n
    · subst h; simp
    · have e : (i < n + 1) = (i < n) := by rw [eq_iff_iff]; omega
      simp [h, e]
theorem xorTo_all (x y : BitVec 128) : xorTo x y 16 = x ^^^ y := bytes_ext fun i hi => by
  unfold xorTo; rw [byte_of _ i hi, byte_xor]; simp [hi]


theorem byte_msb (x : BitVec 128) (k : Nat) (hk : k < 128) : (byte x (k / 8)).getLsbD (7 - k % 8) = x.getMsbD k := by
  rw [byte_bit _ _ _ (by omega)]
  simp only [BitVec.getMsbD, hk, decide_true, Bool.true_and]
  congr 1
  omega

/-- A byte's bits out of the block that is put together bit by bit. -/
theorem byte_bld (p : Nat → Bool) (i t : Nat) (hi : i < 16) (ht : t < 8) : (byte (bld p 128) i).getLsbD t = p (8 * (15 - i) + t) := by
  rw [byte_bit _ _ _ ht, bld_bit _ _ _ (by omega)]
  have : 8 * (15 - i) + t < 128 := by omega
  simp [this]

/-- The block moved on by a bit, as far as bit k. -/
def shTo (b : BitVec 128) (k : Nat) : BitVec 128 := bld (fun t => decide (127 - k ≤ t) && (decide (t ≤ 126) && b.getLsbD (t + 1))) 128
theorem shTo_zero (b : BitVec 128) : shTo b 0 = 0#128 := by
  apply BitVec.eq_of_getLsbD_eq
  intro t ht
  unfold shTo
  rw [bld_bit _ _ _ ht]
  by_cases h : t ≤ 126
  · have : ¬ 127 - 0 ≤ t := by omega
    simp [this]
  · simp [h]
theorem shTo_all (b : BitVec 128) : shTo b 127 = b >>> 1 := by
  apply BitVec.eq_of_getLsbD_eq
  intro t ht
  unfold shTo
  rw [bld_bit _ _ _ ht, BitVec.getLsbD_ushiftRight, Nat.add_comm 1 t]
  by_cases h : t ≤ 126
  · have : 127 - 127 ≤ t := by omega
    simp [h, ht]
  · have e : t = 127 := by omega
    subst e
    rw [BitVec.getLsbD_of_ge b (127 + 1) (by omega)]
    simp
theorem bit_one (r t : Nat) (hr : r < 8) (ht : t < 8) : (128#8 >>> r).getLsbD t = decide (t = 7 - r) := by
  have h : ∀ r, r < 8 → ∀ t, t < 8 → (128#8 >>> r).getLsbD t = decide (t = 7 - r) := by decide
  exact h r hr t ht
theorem shTo_off (b : BitVec 128) (k : Nat) (hk : k < 127) (h : b.getMsbD k = false) : shTo b (k + 1) = shTo b k := by
  apply BitVec.eq_of_getLsbD_eq
  intro t ht
  unfold shTo
  rw [bld_bit _ _ _ ht, bld_bit _ _ _ ht]
  by_cases e : t = 126 - k
  · have hb : b.getLsbD (t + 1) = false := by
      have h1 := h
      simp only [BitVec.getMsbD] at h1
      have e2 : 128 - 1 - k = t + 1 := by omega
      rw [e2] at h1
      simpa [show k < 128 by omega] using h1
    simp [hb]
  · have : decide (127 - (k + 1) ≤ t) = decide (127 - k ≤ t) := by rw [Bool.eq_iff_iff]; simp; omega
    rw [this]
theorem shTo_on (b : BitVec 128) (k : Nat) (hk : k < 127) (h : b.getMsbD k = true) :
    setB (shTo b k) ((k + 1) / 8) (byte (shTo b k) ((k + 1) / 8) ||| (128#8 >>> ((k + 1) % 8))) = shTo b (k + 1) := by
  apply bytes_ext
  intro i hi
  rw [byte_setB _ _ _ _ hi]
  apply BitVec.eq_of_getLsbD_eq
  intro t ht
  have hb : b.getLsbD (127 - k) = true := by
    have h1 := h
    simp only [BitVec.getMsbD] at h1
    simpa [show k < 128 by omega] using h1
  by_cases e : i = (k + 1) / 8
  · rw [if_pos e, BitVec.getLsbD_or, ← e, bit_one _ _ (by omega) ht]
    unfold shTo
    rw [byte_bld _ _ _ hi ht, byte_bld _ _ _ hi ht]
    by_cases e2 : t = 7 - (k + 1) % 8
    · have e3 : 8 * (15 - i) + t = 126 - k := by omega
      rw [e3, show 126 - k + 1 = 127 - k by omega, hb]
      simp [e2]
    · have : decide (127 - (k + 1) ≤ 8 * (15 - i) + t) = decide (127 - k ≤ 8 * (15 - i) + t) := by rw [Bool.eq_iff_iff]; simp; omega
      rw [this]
      simp [e2]
  · rw [if_neg e]
    unfold shTo
    rw [byte_bld _ _ _ hi ht, byte_bld _ _ _ hi ht]
    have : decide (127 - (k + 1) ≤ 8 * (15 - i) + t) = decide (127 - k ≤ 8 * (15 - i) + t) := by rw [Bool.eq_iff_iff]; simp; omega
    rw [this]

theorem e1_bytes : (List.range 16).all (fun i => byte 0xe1000000000000000000000000000000#128 i == if i = 0 then 225#8 else 0#8) = true := by decide +kernel
theorem mulX_on (b : BitVec 128) (h : b.getMsbD 127 = true) : setB (b >>> 1) 0 (byte (b >>> 1) 0 ^^^ 225#8) = mulX b := by
  have h0 : b.getLsbD 0 = true := by simpa [BitVec.getMsbD] using h
  unfold mulX
  rw [if_pos h0]
  apply bytes_ext
  intro i hi
  have he := List.all_eq_true.1 e1_bytes i (List.mem_range.2 hi)
  simp only [beq_iff_eq] at he
  rw [byte_setB _ _ _ _ hi, byte_xor, he]
  by_cases e : i = 0 <;> simp [e]
theorem mulX_off (b : BitVec 128) (h : b.getMsbD 127 = false) : b >>> 1 = mulX b := by
  have h0 : b.getLsbD 0 = false := by simpa [BitVec.getMsbD] using h
  unfold mulX
  rw [h0]
  simp

end Go.Proofs.Gf

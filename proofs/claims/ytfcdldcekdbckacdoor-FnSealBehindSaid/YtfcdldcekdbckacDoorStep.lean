/- One step of GHASH as the code reckons it (Karatsuba over 32-bit words, a bit-reversed product, the reduction) is the product of the field; and the masked multiplication of the code is the carryless one. Plain Lean, no program in sight. -/
import Derived.Test.YtfcdldcekdbckacDoorClm
namespace Go.Proofs.Gf

/-! The masked multiplication -/

def xm (x : BitVec 32) (i : Nat) : BitVec 32 := x &&& (0x11111111#32 <<< i)
def wid (x : BitVec 32) : BitVec 64 := x.setWidth 64
def zm (i : Nat) : BitVec 64 := 0x1111111111111111#64 <<< i
/-- One product of masked numbers, masked. -/
def pr (x y : BitVec 32) (j k : Nat) : BitVec 64 := (wid (xm x j) * wid (xm y k)) &&& zm ((j + k) % 4)

theorem mask8 : mask 8 = 0x11111111 := by decide
theorem mask16 : mask 16 = 0x1111111111111111 := by decide

theorem xm_toNat (x : BitVec 32) (j : Nat) (hj : j < 4) : (xm x j).toNat = 2 ^ j * par 8 (x.toNat / 2 ^ j) := by
  unfold xm
  rw [BitVec.toNat_and, par_mask, mask8]
  apply Nat.eq_of_testBit_eq
  intro i
  rw [Nat.testBit_and, Nat.mul_comm, Nat.testBit_mul_two_pow, Nat.testBit_and, Nat.testBit_div_two_pow]
  by_cases hi : j ≤ i
  · have e : i - j + j = i := by omega
    simp only [hi, decide_true, Bool.true_and, e]
    congr 1
    have h : (0x11111111#32 <<< j).toNat = 0x11111111 * 2 ^ j := by
      match j, hj with
      | 0, _ => decide
      | 1, _ => decide
      | 2, _ => decide
      | 3, _ => decide
    rw [h, Nat.testBit_mul_two_pow]
    simp [hi]
  · have h : (0x11111111#32 <<< j).toNat = 0x11111111 * 2 ^ j := by
      match j, hj with
      | 0, _ => decide
      | 1, _ => decide
      | 2, _ => decide
      | 3, _ => decide
    rw [h, Nat.testBit_mul_two_pow]
    simp [hi]

theorem small_lt (k : Nat) : ∀ m, small 1 k m → 8 * m < 16 ^ k := by
  induction k with
  | zero => intro m h; simp only [small] at h; subst h; decide
  | succ k ih =>
    intro m h
    have := ih _ h.2
    have := h.1
    rw [Nat.pow_succ]
    omega

theorem lt_of_small (p k : Nat) : ∀ m, small p k m → m < 16 ^ k := by
  induction k with
  | zero => intro m h; simp only [small] at h; subst h; decide
  | succ k ih =>
    intro m h
    have := ih _ h.2
    rw [Nat.pow_succ]
    omega

theorem par_le (k m : Nat) : par k m < 16 ^ k := lt_of_small 1 k _ (par_is_small k m)

theorem mul_lt64 (a b : Nat) (ha : a < 2 ^ 32) (hb : b < 2 ^ 32) : a * b < 2 ^ 64 := by
  have h : a * b ≤ (2 ^ 32 - 1) * (2 ^ 32 - 1) := Nat.mul_le_mul (by omega) (by omega)
  omega

/-- A shift by s of what has its lowest bits at the digits' lowest places: under the mask of that place. -/
theorem mask_shift (m : Nat) : ∀ q r, r < 4 → (2 ^ (4 * q + r) * m) &&& (mask (16 + q) * 2 ^ r) = 2 ^ (4 * q + r) * par 16 m := by
  intro q r _
  rw [par_mask]
  apply Nat.eq_of_testBit_eq
  intro i
  rw [Nat.mul_comm, Nat.mul_comm (2 ^ (4 * q + r)), Nat.testBit_and, Nat.testBit_mul_two_pow, Nat.testBit_mul_two_pow, Nat.testBit_mul_two_pow, Nat.testBit_and]
  have key : ∀ q i, 4 * q ≤ i → (mask (16 + q)).testBit i = (mask 16).testBit (i - 4 * q) := by
    intro q
    induction q with
    | zero => intro i _; rfl
    | succ q ih =>
      intro i hi
      have h := ih (i - 4) (by omega)
      have e : mask (16 + (q + 1)) = 1 + 16 * mask (16 + q) := rfl
      rw [e]
      have h2 : (1 + 16 * mask (16 + q)).testBit i = (mask (16 + q)).testBit (i - 4) := by
        have := Nat.testBit_div_two_pow (n := 4) (1 + 16 * mask (16 + q)) (i - 4)
        have e1 : (1 + 16 * mask (16 + q)) / 2 ^ 4 = mask (16 + q) := by omega
        rw [e1] at this
        rw [this]
        congr 1
        omega
      rw [h2, h]
      congr 1
      omega
  by_cases h : 4 * q + r ≤ i
  · have h1 := key q (i - r) (by omega)
    have e : i - r - 4 * q = i - (4 * q + r) := by omega
    rw [h1, e]
    have hr : r ≤ i := by omega
    simp [h, hr]
  · simp [h]

theorem zm_toNat (r : Nat) (hr : r < 4) : (zm r).toNat = mask 16 * 2 ^ r := by
  unfold zm
  match r, hr with
  | 0, _ => decide
  | 1, _ => decide
  | 2, _ => decide
  | 3, _ => decide

/-- Higher digits of the mask make no difference where there is nothing. -/
theorem and_mask_up (a : Nat) (ha : a < 2 ^ 64) (r : Nat) (hr : r < 4) : a &&& (mask 17 * 2 ^ r) = a &&& (mask 16 * 2 ^ r) := by
  apply Nat.eq_of_testBit_eq
  intro i
  rw [Nat.testBit_and, Nat.testBit_and]
  by_cases hi : i < 64
  · congr 1
    rw [Nat.testBit_mul_two_pow, Nat.testBit_mul_two_pow]
    by_cases h : r ≤ i
    · simp only [h, decide_true, Bool.true_and]
      have hm : ∀ j, j < 64 → (mask 17).testBit j = (mask 16).testBit j := by decide +kernel
      exact hm _ (by omega)
    · simp [h]
  · have : a.testBit i = false := Nat.testBit_lt_two_pow (Nat.lt_of_lt_of_le ha (Nat.pow_le_pow_right (by decide) (by omega)))
    simp [this]

theorem pr_toNat (x y : BitVec 32) (j k : Nat) (hj : j < 4) (hk : k < 4) : (pr x y j k).toNat = 2 ^ (j + k) * pm (x.toNat / 2 ^ j) (y.toNat / 2 ^ k) := by
  unfold pr
  rw [BitVec.toNat_and, BitVec.toNat_mul, zm_toNat _ (by omega)]
  have hx : (wid (xm x j)).toNat = (xm x j).toNat := by unfold wid; rw [BitVec.toNat_setWidth, Nat.mod_eq_of_lt (by have := (xm x j).isLt; omega)]
  have hy : (wid (xm y k)).toNat = (xm y k).toNat := by unfold wid; rw [BitVec.toNat_setWidth, Nat.mod_eq_of_lt (by have := (xm y k).isLt; omega)]
  rw [hx, hy]
  have hlt := mul_lt64 _ _ (xm x j).isLt (xm y k).isLt
  rw [Nat.mod_eq_of_lt hlt]
  rw [xm_toNat x j hj, xm_toNat y k hk] at hlt ⊢
  have e : 2 ^ j * par 8 (x.toNat / 2 ^ j) * (2 ^ k * par 8 (y.toNat / 2 ^ k)) = 2 ^ (j + k) * (par 8 (x.toNat / 2 ^ j) * par 8 (y.toNat / 2 ^ k)) := by
    rw [Nat.pow_add]; ac_rfl
  rw [e] at hlt ⊢
  unfold pm
  generalize par 8 (x.toNat / 2 ^ j) * par 8 (y.toNat / 2 ^ k) = m at hlt ⊢
  by_cases h4 : j + k < 4
  · rw [Nat.mod_eq_of_lt h4]
    have := mask_shift m 0 (j + k) h4
    simpa using this
  · have e4 : (j + k) % 4 = j + k - 4 := by omega
    rw [e4, ← and_mask_up _ hlt _ (by omega)]
    have := mask_shift m 1 (j + k - 4) (by omega)
    have e5 : 4 * 1 + (j + k - 4) = j + k := by omega
    rw [e5] at this
    exact this

theorem xor_mul_two_pow (s a b : Nat) : 2 ^ s * (a ^^^ b) = (2 ^ s * a) ^^^ (2 ^ s * b) := by
  apply Nat.eq_of_testBit_eq
  intro i
  rw [Nat.testBit_xor, Nat.mul_comm, Nat.mul_comm (2 ^ s) a, Nat.mul_comm (2 ^ s) b, Nat.testBit_mul_two_pow, Nat.testBit_mul_two_pow, Nat.testBit_mul_two_pow, Nat.testBit_xor]
  by_cases h : s ≤ i <;> simp [h]

theorem pr_left (y : BitVec 32) (j k : Nat) (hj : j < 4) (hk : k < 4) : Addi (fun x => pr x y j k) := by
  intro a b
  apply BitVec.eq_of_toNat_eq
  show (pr (a ^^^ b) y j k).toNat = (pr a y j k ^^^ pr b y j k).toNat
  rw [BitVec.toNat_xor, pr_toNat _ _ _ _ hj hk, pr_toNat _ _ _ _ hj hk, pr_toNat _ _ _ _ hj hk, BitVec.toNat_xor, Nat.xor_div_two_pow, pm_left, xor_mul_two_pow]

theorem pr_right (x : BitVec 32) (j k : Nat) (hj : j < 4) (hk : k < 4) : Addi (fun y => pr x y j k) := by
  intro a b
  apply BitVec.eq_of_toNat_eq
  show (pr x (a ^^^ b) j k).toNat = (pr x a j k ^^^ pr x b j k).toNat
  rw [BitVec.toNat_xor, pr_toNat _ _ _ _ hj hk, pr_toNat _ _ _ _ hj hk, pr_toNat _ _ _ _ hj hk, BitVec.toNat_xor, Nat.xor_div_two_pow, pm_right, xor_mul_two_pow]

/-- What the code puts into z[i]. -/
def zC (x y : BitVec 32) (i : Nat) : BitVec 64 :=
  ((((wid (xm x 0) * wid (xm y i)) ^^^ (wid (xm x 1) * wid (xm y ((i + 3) % 4)))) ^^^ (wid (xm x 2) * wid (xm y ((i + 2) % 4)))) ^^^ (wid (xm x 3) * wid (xm y ((i + 1) % 4)))) &&& zm i
/-- What the code makes of two numbers. -/
def mulC (x y : BitVec 32) : BitVec 64 := ((zC x y 0 ||| zC x y 1) ||| zC x y 2) ||| zC x y 3

theorem zC_pr (x y : BitVec 32) (i : Nat) (hi : i < 4) : zC x y i = ((pr x y 0 i ^^^ pr x y 1 ((i + 3) % 4)) ^^^ pr x y 2 ((i + 2) % 4)) ^^^ pr x y 3 ((i + 1) % 4) := by
  have e1 : (1 + (i + 3) % 4) % 4 = i := by omega
  have e2 : (2 + (i + 2) % 4) % 4 = i := by omega
  have e3 : (3 + (i + 1) % 4) % 4 = i := by omega
  have e0 : (0 + i) % 4 = i := by omega
  unfold zC pr
  rw [e0, e1, e2, e3]
  apply BitVec.eq_of_getLsbD_eq
  intro j _
  simp only [BitVec.getLsbD_and, BitVec.getLsbD_xor, Bool.and_xor_distrib_right]

theorem zm_bit : ∀ i, i < 4 → ∀ t, t < 64 → (zm i).getLsbD t = decide (t % 4 = i) := by decide +kernel

theorem zC_bit (x y : BitVec 32) (i t : Nat) (hi : i < 4) (ht : t < 64) (h : t % 4 ≠ i) : (zC x y i).getLsbD t = false := by
  unfold zC
  rw [BitVec.getLsbD_and, zm_bit i hi t ht]
  simp [h]

theorem mulC_xor (x y : BitVec 32) : mulC x y = ((zC x y 0 ^^^ zC x y 1) ^^^ zC x y 2) ^^^ zC x y 3 := by
  apply BitVec.eq_of_getLsbD_eq
  intro t ht
  unfold mulC
  simp only [BitVec.getLsbD_or, BitVec.getLsbD_xor]
  have h4 : t % 4 = 0 ∨ t % 4 = 1 ∨ t % 4 = 2 ∨ t % 4 = 3 := by omega
  rcases h4 with h | h | h | h
  · rw [zC_bit x y 1 t (by decide) ht (by omega), zC_bit x y 2 t (by decide) ht (by omega), zC_bit x y 3 t (by decide) ht (by omega)]; simp
  · rw [zC_bit x y 0 t (by decide) ht (by omega), zC_bit x y 2 t (by decide) ht (by omega), zC_bit x y 3 t (by decide) ht (by omega)]; simp
  · rw [zC_bit x y 0 t (by decide) ht (by omega), zC_bit x y 1 t (by decide) ht (by omega), zC_bit x y 3 t (by decide) ht (by omega)]; simp
  · rw [zC_bit x y 0 t (by decide) ht (by omega), zC_bit x y 1 t (by decide) ht (by omega), zC_bit x y 2 t (by decide) ht (by omega)]; simp

theorem zC_left (y : BitVec 32) (i : Nat) (hi : i < 4) : Addi (fun x => zC x y i) := by
  intro a b
  show zC (a ^^^ b) y i = zC a y i ^^^ zC b y i
  rw [zC_pr _ _ _ hi, zC_pr _ _ _ hi, zC_pr _ _ _ hi]
  have h0 := pr_left y 0 i (by decide) hi a b
  have h1 := pr_left y 1 ((i + 3) % 4) (by decide) (by omega) a b
  have h2 := pr_left y 2 ((i + 2) % 4) (by decide) (by omega) a b
  have h3 := pr_left y 3 ((i + 1) % 4) (by decide) (by omega) a b
  simp only at h0 h1 h2 h3
  rw [h0, h1, h2, h3]
  ac_rfl

theorem zC_right (x : BitVec 32) (i : Nat) (hi : i < 4) : Addi (fun y => zC x y i) := by
  intro a b
  show zC x (a ^^^ b) i = zC x a i ^^^ zC x b i
  rw [zC_pr _ _ _ hi, zC_pr _ _ _ hi, zC_pr _ _ _ hi]
  have h0 := pr_right x 0 i (by decide) hi a b
  have h1 := pr_right x 1 ((i + 3) % 4) (by decide) (by omega) a b
  have h2 := pr_right x 2 ((i + 2) % 4) (by decide) (by omega) a b
  have h3 := pr_right x 3 ((i + 1) % 4) (by decide) (by omega) a b
  simp only at h0 h1 h2 h3
  rw [h0, h1, h2, h3]
  ac_rfl

theorem mulC_left (y : BitVec 32) : Addi (fun x => mulC x y) := by
  intro a b
  show mulC (a ^^^ b) y = mulC a y ^^^ mulC b y
  rw [mulC_xor, mulC_xor, mulC_xor]
  have h0 := zC_left y 0 (by decide) a b
  have h1 := zC_left y 1 (by decide) a b
  have h2 := zC_left y 2 (by decide) a b
  have h3 := zC_left y 3 (by decide) a b
  simp only at h0 h1 h2 h3
  rw [h0, h1, h2, h3]
  ac_rfl

theorem mulC_right (x : BitVec 32) : Addi (fun y => mulC x y) := by
  intro a b
  show mulC x (a ^^^ b) = mulC x a ^^^ mulC x b
  rw [mulC_xor, mulC_xor, mulC_xor]
  have h0 := zC_right x 0 (by decide) a b
  have h1 := zC_right x 1 (by decide) a b
  have h2 := zC_right x 2 (by decide) a b
  have h3 := zC_right x 3 (by decide) a b
  simp only at h0 h1 h2 h3
  rw [h0, h1, h2, h3]
  ac_rfl

theorem mulC_basis : (List.range 32).all (fun i => (List.range 32).all fun j => mulC (1#32 <<< i) (1#32 <<< j) == 1#64 <<< (i + j)) = true := by decide +kernel

/-- THE CODE's MULTIPLICATION IS THE CARRYLESS ONE. -/
theorem mulC_clm (x y : BitVec 32) : mulC x y = clm x y := by
  refine addi_ext (mulC_left y) (clm_left y) (fun i hi => ?_) x
  refine addi_ext (mulC_right _) (clm_right _) (fun j hj => ?_) y
  have := List.all_eq_true.1 (List.all_eq_true.1 mulC_basis i (List.mem_range.2 hi)) j (List.mem_range.2 hj)
  rw [clm_bits i j hi hj]
  simpa using this

/-! The 256-bit product and its reduction -/

/-- The low and high half of a 128-bit product out of three 64-bit ones. -/
def loK (zl zh zs : BitVec 64) : BitVec 64 := zl ^^^ ((zs ^^^ zl ^^^ zh) <<< 32)
def hiK (zl zh zs : BitVec 64) : BitVec 64 := zh ^^^ ((zs ^^^ zl ^^^ zh) >>> 32)

def fR (w : BitVec 64) : BitVec 64 := w ^^^ (w >>> 1) ^^^ (w >>> 2) ^^^ (w >>> 7)
def gR (w : BitVec 64) : BitVec 64 := (w <<< 63) ^^^ (w <<< 62) ^^^ (w <<< 57)

/-- The reduction, of the product's four words, the lowest first: the high and the low word of what is left. -/
def red (a b c d : BitVec 64) : BitVec 64 × BitVec 64 :=
  let z0 := a <<< 1
  let z1 := (b <<< 1) ||| (a >>> 63)
  let z2 := (c <<< 1) ||| (b >>> 63)
  let z3 := (d <<< 1) ||| (c >>> 63)
  let z1' := z1 ^^^ gR z0
  let z2' := (z2 ^^^ fR z0) ^^^ gR z1'
  let z3' := z3 ^^^ fR z1'
  (z3', z2')

structure Q4 where
  a : BitVec 64
  b : BitVec 64
  c : BitVec 64
  d : BitVec 64

/-- The product's four words. -/
def prodM (clm : BitVec 32 → BitVec 32 → BitVec 64) (y0 y1 y2 y3 h0 h1 h2 h3 : BitVec 32) : Q4 :=
  let l0 := loK (clm y0 h0) (clm y1 h1) (clm (y0 ^^^ y1) (h0 ^^^ h1))
  let u0 := hiK (clm y0 h0) (clm y1 h1) (clm (y0 ^^^ y1) (h0 ^^^ h1))
  let l1 := loK (clm y2 h2) (clm y3 h3) (clm (y2 ^^^ y3) (h2 ^^^ h3))
  let u1 := hiK (clm y2 h2) (clm y3 h3) (clm (y2 ^^^ y3) (h2 ^^^ h3))
  let l2 := loK (clm (y0 ^^^ y2) (h0 ^^^ h2)) (clm (y1 ^^^ y3) (h1 ^^^ h3)) (clm ((y0 ^^^ y2) ^^^ (y1 ^^^ y3)) ((h0 ^^^ h2) ^^^ (h1 ^^^ h3)))
  let u2 := hiK (clm (y0 ^^^ y2) (h0 ^^^ h2)) (clm (y1 ^^^ y3) (h1 ^^^ h3)) (clm ((y0 ^^^ y2) ^^^ (y1 ^^^ y3)) ((h0 ^^^ h2) ^^^ (h1 ^^^ h3)))
  ⟨l0, u0 ^^^ (l2 ^^^ (l0 ^^^ l1)), l1 ^^^ (u2 ^^^ (u0 ^^^ u1)), u1⟩

def prod (y0 y1 y2 y3 h0 h1 h2 h3 : BitVec 32) : Q4 := prodM clm y0 y1 y2 y3 h0 h1 h2 h3

theorem xor6 (a b c a' b' c' : BitVec 64) : c ^^^ c' ^^^ (a ^^^ a') ^^^ (b ^^^ b') = (c ^^^ a ^^^ b) ^^^ (c' ^^^ a' ^^^ b') := by ac_rfl
theorem xor8 (a b c d a' b' c' d' : BitVec 64) : a ^^^ a' ^^^ (b ^^^ b') ^^^ (c ^^^ c') ^^^ (d ^^^ d') = (a ^^^ b ^^^ c ^^^ d) ^^^ (a' ^^^ b' ^^^ c' ^^^ d') := by ac_rfl
theorem loK_xor (a b c a' b' c' : BitVec 64) : loK (a ^^^ a') (b ^^^ b') (c ^^^ c') = loK a b c ^^^ loK a' b' c' := by
  unfold loK
  rw [xor6, BitVec.shiftLeft_xor_distrib, xor4']
theorem hiK_xor (a b c a' b' c' : BitVec 64) : hiK (a ^^^ a') (b ^^^ b') (c ^^^ c') = hiK a b c ^^^ hiK a' b' c' := by
  unfold hiK
  rw [xor6, BitVec.ushiftRight_xor_distrib, xor4']
theorem fR_xor (a b : BitVec 64) : fR (a ^^^ b) = fR a ^^^ fR b := by
  unfold fR
  rw [BitVec.ushiftRight_xor_distrib, BitVec.ushiftRight_xor_distrib, BitVec.ushiftRight_xor_distrib]
  exact xor8 _ _ _ _ _ _ _ _
theorem gR_xor (a b : BitVec 64) : gR (a ^^^ b) = gR a ^^^ gR b := by
  unfold gR
  rw [BitVec.shiftLeft_xor_distrib, BitVec.shiftLeft_xor_distrib, BitVec.shiftLeft_xor_distrib]
  exact xor6 _ _ _ _ _ _
theorem or_xor (a b : BitVec 64) : (a <<< 1) ||| (b >>> 63) = (a <<< 1) ^^^ (b >>> 63) := by
  apply BitVec.eq_of_getLsbD_eq
  intro i hi
  simp only [BitVec.getLsbD_or, BitVec.getLsbD_xor, BitVec.getLsbD_shiftLeft, BitVec.getLsbD_ushiftRight]
  by_cases h : i = 0
  · subst h; simp
  · have : b.getLsbD (63 + i) = false := BitVec.getLsbD_of_ge b _ (by omega)
    rw [this]; simp

def Q4.xor (p q : Q4) : Q4 := ⟨p.a ^^^ q.a, p.b ^^^ q.b, p.c ^^^ q.c, p.d ^^^ q.d⟩
/-- What the reduction leaves, as 128 bits. -/
def redQ (p : Q4) : BitVec 128 := (red p.a p.b p.c p.d).1 ++ (red p.a p.b p.c p.d).2

theorem append_xor (a b c d : BitVec 64) : ((a ^^^ b) ++ (c ^^^ d) : BitVec 128) = (a ++ c) ^^^ (b ++ d) := by
  apply BitVec.eq_of_getLsbD_eq
  intro i _
  simp only [BitVec.getLsbD_xor, BitVec.getLsbD_append]
  by_cases h : i < 64 <;> simp [h]

theorem redQ_xor (p q : Q4) : redQ (p.xor q) = redQ p ^^^ redQ q := by
  unfold redQ red Q4.xor
  simp only [or_xor]
  rw [← append_xor]
  have s1 := fun x y : BitVec 64 => BitVec.shiftLeft_xor_distrib x y 1
  have s2 := fun x y : BitVec 64 => BitVec.ushiftRight_xor_distrib x y 63
  have z1 : ∀ x y u v : BitVec 64, ((x ^^^ y) <<< 1) ^^^ ((u ^^^ v) >>> 63) = ((x <<< 1) ^^^ (u >>> 63)) ^^^ ((y <<< 1) ^^^ (v >>> 63)) := fun x y u v => by rw [s1, s2, xor4']
  rw [z1, z1, z1, s1]
  generalize (p.b <<< 1) ^^^ (p.a >>> 63) = p1
  generalize (q.b <<< 1) ^^^ (q.a >>> 63) = q1
  generalize (p.c <<< 1) ^^^ (p.b >>> 63) = p2
  generalize (q.c <<< 1) ^^^ (q.b >>> 63) = q2
  generalize (p.d <<< 1) ^^^ (p.c >>> 63) = p3
  generalize (q.d <<< 1) ^^^ (q.c >>> 63) = q3
  generalize p.a <<< 1 = p0
  generalize q.a <<< 1 = q0
  have e1 : p1 ^^^ q1 ^^^ gR (p0 ^^^ q0) = (p1 ^^^ gR p0) ^^^ (q1 ^^^ gR q0) := by rw [gR_xor, xor4']
  rw [e1]
  generalize p1 ^^^ gR p0 = u1
  generalize q1 ^^^ gR q0 = v1
  rw [fR_xor u1 v1, fR_xor p0 q0, gR_xor u1 v1, xor4' p3 q3, xor4' p2 q2, xor4' (p2 ^^^ fR p0)]

/-- Word i of 128 bits, the lowest one first. -/
def wd (x : BitVec 128) (i : Nat) : BitVec 32 := x.extractLsb' (32 * i) 32
theorem wd_xor (a b : BitVec 128) (i : Nat) : wd (a ^^^ b) i = wd a i ^^^ wd b i := by
  unfold wd
  apply BitVec.eq_of_getLsbD_eq
  intro j _
  simp only [BitVec.getLsbD_xor, BitVec.getLsbD_extractLsb']
  cases decide (j < 32) <;> simp

def prodW (y h : BitVec 128) : Q4 := prod (wd y 0) (wd y 1) (wd y 2) (wd y 3) (wd h 0) (wd h 1) (wd h 2) (wd h 3)
/-- One step of the code. -/
def stepC (y h : BitVec 128) : BitVec 128 := redQ (prodW y h)

theorem Q4.mk_eq {a b c d a' b' c' d' : BitVec 64} (ha : a = a') (hb : b = b') (hc : c = c') (hd : d = d') : Q4.mk a b c d = Q4.mk a' b' c' d' := by subst ha; subst hb; subst hc; subst hd; rfl
theorem mid4 (a a' b b' c c' d d' : BitVec 64) : a ^^^ a' ^^^ (b ^^^ b' ^^^ (c ^^^ c' ^^^ (d ^^^ d'))) = a ^^^ (b ^^^ (c ^^^ d)) ^^^ (a' ^^^ (b' ^^^ (c' ^^^ d'))) := by ac_rfl

theorem prodM_left (m : BitVec 32 → BitVec 32 → BitVec 64) (hm : ∀ a b y, m (a ^^^ b) y = m a y ^^^ m b y) (y0 y1 y2 y3 x0 x1 x2 x3 h0 h1 h2 h3 : BitVec 32) :
    prodM m (y0 ^^^ x0) (y1 ^^^ x1) (y2 ^^^ x2) (y3 ^^^ x3) h0 h1 h2 h3 = (prodM m y0 y1 y2 y3 h0 h1 h2 h3).xor (prodM m x0 x1 x2 x3 h0 h1 h2 h3) := by
  unfold prodM Q4.xor
  rw [xor4' y0 x0 y1 x1, xor4' y2 x2 y3 x3, xor4' y0 x0 y2 x2, xor4' y1 x1 y3 x3, xor4' (y0 ^^^ y2) (x0 ^^^ x2) (y1 ^^^ y3) (x1 ^^^ x3),
    hm y0 x0, hm y1 x1, hm y2 x2, hm y3 x3, hm (y0 ^^^ y1) (x0 ^^^ x1), hm (y2 ^^^ y3) (x2 ^^^ x3),
    hm (y0 ^^^ y2) (x0 ^^^ x2), hm (y1 ^^^ y3) (x1 ^^^ x3), hm ((y0 ^^^ y2) ^^^ (y1 ^^^ y3)) ((x0 ^^^ x2) ^^^ (x1 ^^^ x3))]
  dsimp only
  rw [loK_xor, loK_xor, loK_xor, hiK_xor, hiK_xor, hiK_xor]
  refine Q4.mk_eq rfl ?_ ?_ rfl
  · exact mid4 _ _ _ _ _ _ _ _
  · exact mid4 _ _ _ _ _ _ _ _
theorem prodM_right (m : BitVec 32 → BitVec 32 → BitVec 64) (hm : ∀ y a b, m y (a ^^^ b) = m y a ^^^ m y b) (y0 y1 y2 y3 x0 x1 x2 x3 h0 h1 h2 h3 : BitVec 32) :
    prodM m h0 h1 h2 h3 (y0 ^^^ x0) (y1 ^^^ x1) (y2 ^^^ x2) (y3 ^^^ x3) = (prodM m h0 h1 h2 h3 y0 y1 y2 y3).xor (prodM m h0 h1 h2 h3 x0 x1 x2 x3) := by
  unfold prodM Q4.xor
  rw [xor4' y0 x0 y1 x1, xor4' y2 x2 y3 x3, xor4' y0 x0 y2 x2, xor4' y1 x1 y3 x3, xor4' (y0 ^^^ y2) (x0 ^^^ x2) (y1 ^^^ y3) (x1 ^^^ x3),
    hm _ y0 x0, hm _ y1 x1, hm _ y2 x2, hm _ y3 x3, hm _ (y0 ^^^ y1) (x0 ^^^ x1), hm _ (y2 ^^^ y3) (x2 ^^^ x3),
    hm _ (y0 ^^^ y2) (x0 ^^^ x2), hm _ (y1 ^^^ y3) (x1 ^^^ x3), hm _ ((y0 ^^^ y2) ^^^ (y1 ^^^ y3)) ((x0 ^^^ x2) ^^^ (x1 ^^^ x3))]
  dsimp only
  rw [loK_xor, loK_xor, loK_xor, hiK_xor, hiK_xor, hiK_xor]
  refine Q4.mk_eq rfl ?_ ?_ rfl
  · exact mid4 _ _ _ _ _ _ _ _
  · exact mid4 _ _ _ _ _ _ _ _
theorem prod_left (y y' h : BitVec 128) : prodW (y ^^^ y') h = (prodW y h).xor (prodW y' h) := by
  unfold prodW
  simp only [wd_xor]
  exact prodM_left clm clm_xor_left _ _ _ _ _ _ _ _ _ _ _ _
theorem prod_right (y h h' : BitVec 128) : prodW y (h ^^^ h') = (prodW y h).xor (prodW y h') := by
  unfold prodW
  simp only [wd_xor]
  exact prodM_right clm clm_xor_right _ _ _ _ _ _ _ _ _ _ _ _

theorem stepC_left (h : BitVec 128) : Addi (fun y => stepC y h) := fun a b => by
  show redQ (prodW (a ^^^ b) h) = _
  rw [prod_left, redQ_xor]; rfl
theorem stepC_right (y : BitVec 128) : Addi (fun h => stepC y h) := fun a b => by
  show redQ (prodW y (a ^^^ b)) = _
  rw [prod_right, redQ_xor]; rfl

end Go.Proofs.Gf

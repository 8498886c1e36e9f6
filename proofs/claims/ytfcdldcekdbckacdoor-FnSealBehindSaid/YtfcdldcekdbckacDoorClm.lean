/- Products without carries: the product of masked numbers (eight bits with three holes between each two) is the carryless one. Plain Lean, no program in sight. -/
import Derived.Test.YtfcdldcekdbckacDoorGf
namespace Go.Proofs.Gf

/-- Additive maps between words. -/
def Addi {w v : Nat} (L : BitVec w → BitVec v) : Prop := ∀ a b, L (a ^^^ b) = L a ^^^ L b

theorem Addi.zero {w v : Nat} {L : BitVec w → BitVec v} (h : Addi L) : L 0#w = 0#v := by
  have h1 := h 0#w 0#w
  rw [BitVec.xor_self, BitVec.xor_self] at h1
  exact h1

/-- The bits of x below n. -/
def low {w : Nat} (x : BitVec w) : Nat → BitVec w
  | 0 => 0#w
  | n + 1 => low x n ^^^ (if x.getLsbD n then 1#w <<< n else 0#w)

theorem low_bit {w : Nat} (x : BitVec w) (n j : Nat) (hj : j < w) : (low x n).getLsbD j = (decide (j < n) && x.getLsbD j) := by
  induction n with
  | zero => simp [low]
  | succ n ih =>
    simp only [low, BitVec.getLsbD_xor, ih]
    have h1 : (1#w <<< n).getLsbD j = decide (j = n) := by
      simp only [BitVec.getLsbD_shiftLeft, BitVec.getLsbD_one]
      by_cases h : j = n
      · subst h; simp; omega
      · simp [h]; omega
    by_cases h : j = n
    · subst h
      cases hx : x.getLsbD j <;> simp [h1]
    · have : (if x.getLsbD n then 1#w <<< n else 0#w).getLsbD j = false := by
        cases x.getLsbD n
        · simp
        · simp [h1, h]
      rw [this]
      have e : decide (j < n + 1) = decide (j < n) := by
        rw [Bool.eq_iff_iff]; simp; omega
      rw [e]; simp

theorem low_all {w : Nat} (x : BitVec w) : low x w = x := by
  apply BitVec.eq_of_getLsbD_eq
  intro j hj
  rw [low_bit x w j hj]
  simp [hj]

theorem addi_ext {w v : Nat} {L M : BitVec w → BitVec v} (hL : Addi L) (hM : Addi M) (h : ∀ i, i < w → L (1#w <<< i) = M (1#w <<< i)) (x : BitVec w) : L x = M x := by
  have key : ∀ n, n ≤ w → L (low x n) = M (low x n) := by
    intro n
    induction n with
    | zero => intro _; simp [low, hL.zero, hM.zero]
    | succ n ih =>
      intro hn
      simp only [low]
      rw [hL, hM, ih (by omega)]
      congr 1
      cases x.getLsbD n
      · simp [hL.zero, hM.zero]
      · simpa using h n (by omega)
  have := key w (Nat.le_refl _)
  rwa [low_all] at this

/-- The product without carries, bit by bit of y. -/
def clmN (x y : BitVec 32) : Nat → BitVec 64
  | 0 => 0#64
  | n + 1 => clmN x y n ^^^ (if y.getLsbD n then x.setWidth 64 <<< n else 0#64)
def clm (x y : BitVec 32) : BitVec 64 := clmN x y 32

theorem xor4' {w : Nat} (a b c d : BitVec w) : (a ^^^ b) ^^^ (c ^^^ d) = (a ^^^ c) ^^^ (b ^^^ d) := by ac_rfl

theorem clmN_left (y : BitVec 32) (n : Nat) : Addi (fun x => clmN x y n) := by
  intro a b
  show clmN (a ^^^ b) y n = clmN a y n ^^^ clmN b y n
  induction n with
  | zero => simp [clmN]
  | succ n ih =>
    simp only [clmN, ih]
    rw [xor4']
    congr 1
    cases y.getLsbD n
    · simp
    · simp [BitVec.setWidth_xor, BitVec.shiftLeft_xor_distrib]

theorem clmN_right (x : BitVec 32) (n : Nat) : Addi (fun y => clmN x y n) := by
  intro a b
  show clmN x (a ^^^ b) n = clmN x a n ^^^ clmN x b n
  induction n with
  | zero => simp [clmN]
  | succ n ih =>
    simp only [clmN, ih, BitVec.getLsbD_xor]
    rw [xor4']
    congr 1
    cases a.getLsbD n <;> cases b.getLsbD n <;> simp

theorem clm_left (y : BitVec 32) : Addi (fun x => clm x y) := clmN_left y 32
theorem clm_right (x : BitVec 32) : Addi (fun y => clm x y) := clmN_right x 32
theorem clm_xor_left (a b y : BitVec 32) : clm (a ^^^ b) y = clm a y ^^^ clm b y := clm_left y a b
theorem clm_xor_right (x a b : BitVec 32) : clm x (a ^^^ b) = clm x a ^^^ clm x b := clm_right x a b
theorem clm_zero_left (y : BitVec 32) : clm 0#32 y = 0#64 := (clm_left y).zero
theorem clm_zero_right (x : BitVec 32) : clm x 0#32 = 0#64 := (clm_right x).zero

theorem clm_basis : (List.range 32).all (fun i => (List.range 32).all fun j => clm (1#32 <<< i) (1#32 <<< j) == 1#64 <<< (i + j)) = true := by decide +kernel
theorem clm_bits (i j : Nat) (hi : i < 32) (hj : j < 32) : clm (1#32 <<< i) (1#32 <<< j) = 1#64 <<< (i + j) := by
  have := List.all_eq_true.1 (List.all_eq_true.1 clm_basis i (by simpa using hi)) j (by simpa using hj)
  simpa using this

theorem clm_comm (x y : BitVec 32) : clm x y = clm y x := by
  refine addi_ext (clm_left y) (clm_right y) (fun i hi => ?_) x
  refine addi_ext (clm_right _) (clm_left _) (fun j hj => ?_) y
  show clm (1#32 <<< i) (1#32 <<< j) = clm (1#32 <<< j) (1#32 <<< i)
  rw [clm_bits i j hi hj, clm_bits j i hj hi, Nat.add_comm]

theorem wide_bits : (List.range 32).all (fun i => 1#64 <<< (i + 0) == (1#32 <<< i).setWidth 64) = true := by decide +kernel
theorem clm_one (x : BitVec 32) : clm x 1#32 = x.setWidth 64 := by
  refine addi_ext (L := fun x => clm x 1#32) (M := fun x => x.setWidth 64) (clm_left _) (fun a b => BitVec.setWidth_xor) (fun i hi => ?_) x
  have h := clm_bits i 0 hi (by omega)
  have e : (1#32 <<< 0) = 1#32 := by decide
  rw [e] at h
  show clm (1#32 <<< i) 1#32 = (1#32 <<< i).setWidth 64
  rw [h]
  have h2 := List.all_eq_true.1 wide_bits i (List.mem_range.2 hi)
  simpa using h2

/-! Numbers with small digits in base 16 -/

/-- The lowest bits of k digits. -/
def par : Nat → Nat → Nat
  | 0, _ => 0
  | k + 1, m => m % 2 + 16 * par k (m / 16)

/-- k digits, each at most p. -/
def small (p : Nat) : Nat → Nat → Prop
  | 0, m => m = 0
  | k + 1, m => m % 16 ≤ p ∧ small p k (m / 16)

theorem xor16 (a b u v : Nat) (ha : a < 16) (hb : b < 16) : (a + 16 * u) ^^^ (b + 16 * v) = (a ^^^ b) + 16 * (u ^^^ v) := by
  have hm : ((a + 16 * u) ^^^ (b + 16 * v)) % 16 = a ^^^ b := by
    have h := Nat.xor_mod_two_pow (a := a + 16 * u) (b := b + 16 * v) (n := 4)
    have e1 : (a + 16 * u) % 2 ^ 4 = a := by omega
    have e2 : (b + 16 * v) % 2 ^ 4 = b := by omega
    rw [e1, e2] at h
    exact h
  have hd : ((a + 16 * u) ^^^ (b + 16 * v)) / 16 = u ^^^ v := by
    have h := Nat.xor_div_two_pow (a := a + 16 * u) (b := b + 16 * v) (n := 4)
    have e1 : (a + 16 * u) / 2 ^ 4 = u := by omega
    have e2 : (b + 16 * v) / 2 ^ 4 = v := by omega
    rw [e1, e2] at h
    exact h
  omega

theorem xor_le_one (a b : Nat) (ha : a < 2) (hb : b < 2) : a ^^^ b = (a + b) % 2 := by
  have ha' : a = 0 ∨ a = 1 := by omega
  have hb' : b = 0 ∨ b = 1 := by omega
  rcases ha' with rfl | rfl <;> rcases hb' with rfl | rfl <;> rfl

theorem par_add (p q k : Nat) : ∀ m n, small p k m → small q k n → p + q ≤ 15 → par k (m + n) = par k m ^^^ par k n ∧ small (p + q) k (m + n) := by
  induction k with
  | zero => intro m n hm hn _; simp only [small] at hm hn; subst hm; subst hn; simp [par, small]
  | succ k ih =>
    intro m n hm hn hpq
    obtain ⟨h1, h2⟩ := hm
    obtain ⟨h3, h4⟩ := hn
    obtain ⟨i1, i2⟩ := ih _ _ h2 h4 hpq
    have e1 : (m + n) / 16 = m / 16 + n / 16 := by omega
    have e2 : (m + n) % 16 = m % 16 + n % 16 := by omega
    refine ⟨?_, ?_, ?_⟩
    · simp only [par]
      rw [xor16 _ _ _ _ (by omega) (by omega), xor_le_one _ _ (by omega) (by omega), e1, i1]
      omega
    · rw [e2]; omega
    · rw [e1]; exact i2

theorem small_zero (p k : Nat) : small p k 0 := by
  induction k with
  | zero => rfl
  | succ k ih => exact ⟨by simp, by simpa using ih⟩

theorem small_mono {p q : Nat} (h : p ≤ q) (k : Nat) : ∀ m, small p k m → small q k m := by
  induction k with
  | zero => intro m hm; exact hm
  | succ k ih => intro m hm; exact ⟨by have := hm.1; omega, ih _ hm.2⟩

theorem small_up {p : Nat} (k : Nat) : ∀ m, small p k m → small p (k + 1) m := by
  induction k with
  | zero => intro m hm; simp only [small] at hm; subst hm; exact ⟨by simp, rfl⟩
  | succ k ih => intro m hm; exact ⟨hm.1, ih _ hm.2⟩

theorem small_up_by {p : Nat} (k n m : Nat) (h : small p k m) : small p (k + n) m := by
  induction n with
  | zero => exact h
  | succ n ih => exact small_up _ _ ih

theorem small_shift {p k m : Nat} (h : small p k m) : small p (k + 1) (16 * m) := ⟨by omega, by rw [Nat.mul_div_cancel_left m (by decide)]; exact h⟩

theorem par_small (k : Nat) : ∀ m, small 1 k m → par k m = m := by
  induction k with
  | zero => intro m hm; simp only [small] at hm; subst hm; rfl
  | succ k ih =>
    intro m hm
    simp only [par]
    rw [ih _ hm.2]
    have := hm.1
    omega

theorem par_up (k : Nat) : ∀ m, small 15 k m → par (k + 1) m = par k m := by
  induction k with
  | zero => intro m hm; simp only [small] at hm; subst hm; rfl
  | succ k ih =>
    intro m hm
    have h := ih _ hm.2
    show m % 2 + 16 * par (k + 1) (m / 16) = m % 2 + 16 * par k (m / 16)
    rw [h]

theorem par_up_by (k n m : Nat) (h : small 15 k m) : par (k + n) m = par k m := by
  induction n with
  | zero => rfl
  | succ n ih => rw [← Nat.add_assoc, par_up _ _ (small_up_by k n m h), ih]

theorem par_shift (k m : Nat) : par (k + 1) (16 * m) = 16 * par k m := by
  simp only [par]
  rw [Nat.mul_div_cancel_left m (by decide)]
  omega

theorem par_is_small (k : Nat) : ∀ m, small 1 k (par k m) := by
  induction k with
  | zero => intro m; rfl
  | succ k ih =>
    intro m
    simp only [par]
    have e : (m % 2 + 16 * par k (m / 16)) / 16 = par k (m / 16) := by omega
    exact ⟨by omega, by rw [e]; exact ih _⟩

/-- The product of numbers with digits 0 and 1, without carries. -/
def cl : Nat → Nat → Nat → Nat
  | 0, _, _ => 0
  | k + 1, a, b => (if a % 16 = 1 then b else 0) ^^^ (16 * cl k (a / 16) b)

theorem cl_is (k : Nat) (hk : k ≤ 15) (b : Nat) (hb : small 1 8 b) : ∀ a, small 1 k a → par (k + 8) (a * b) = cl k a b ∧ small k (k + 8) (a * b) := by
  induction k with
  | zero =>
    intro a ha
    simp only [small] at ha
    subst ha
    rw [Nat.zero_mul]
    exact ⟨show par 8 0 = 0 by decide, small_zero _ _⟩
  | succ k ih =>
    intro a ha
    obtain ⟨i1, i2⟩ := ih (by omega) (a / 16) ha.2
    have e : a * b = (a % 16) * b + 16 * (a / 16 * b) := by
      have h := Nat.div_add_mod a 16
      calc a * b = (16 * (a / 16) + a % 16) * b := by rw [h]
        _ = (a % 16) * b + 16 * (a / 16 * b) := by rw [Nat.add_mul, Nat.mul_assoc, Nat.add_comm]
    have hd : small 1 (k + 1 + 8) ((a % 16) * b) := by
      have hu : small 1 (k + 1 + 8) b := by rw [Nat.add_comm (k + 1) 8]; exact small_up_by 8 (k + 1) b hb
      have := ha.1
      have h01 : a % 16 = 0 ∨ a % 16 = 1 := by omega
      rcases h01 with h | h
      · rw [h, Nat.zero_mul]; exact small_zero _ _
      · rw [h, Nat.one_mul]; exact hu
    have hs : small k (k + 1 + 8) (16 * (a / 16 * b)) := by
      have := small_shift i2
      rw [show k + 8 + 1 = k + 1 + 8 by omega] at this
      exact this
    obtain ⟨p1, p2⟩ := par_add 1 k (k + 1 + 8) _ _ hd hs (by omega)
    rw [e]
    rw [Nat.add_comm 1 k] at p2
    refine ⟨?_, p2⟩
    rw [p1, par_small _ _ hd]
    have hp : par (k + 1 + 8) (16 * (a / 16 * b)) = 16 * cl k (a / 16) b := by
      rw [show k + 1 + 8 = k + 8 + 1 by omega, par_shift, i1]
    rw [hp]
    simp only [cl]
    have := ha.1
    have h01 : a % 16 = 0 ∨ a % 16 = 1 := by omega
    rcases h01 with h | h <;> simp [h]

theorem mul16_xor (a b : Nat) : 16 * (a ^^^ b) = (16 * a) ^^^ (16 * b) := by
  have h := xor16 0 0 a b (by decide) (by decide)
  simpa using h.symm

theorem nxor4 (a b c d : Nat) : (a ^^^ b) ^^^ (c ^^^ d) = (a ^^^ c) ^^^ (b ^^^ d) := by ac_rfl

theorem cl_xor (k : Nat) : ∀ a b c, cl k a (b ^^^ c) = cl k a b ^^^ cl k a c := by
  induction k with
  | zero => intro a b c; simp [cl]
  | succ k ih =>
    intro a b c
    simp only [cl, ih, mul16_xor]
    rw [nxor4]
    congr 1
    by_cases h : a % 16 = 1 <;> simp [h]

/-- The mask of k digits. -/
def mask : Nat → Nat
  | 0 => 0
  | k + 1 => 1 + 16 * mask k

theorem and16 (a b u v : Nat) (ha : a < 16) (hb : b < 16) : (a + 16 * u) &&& (b + 16 * v) = (a &&& b) + 16 * (u &&& v) := by
  have hm : ((a + 16 * u) &&& (b + 16 * v)) % 16 = a &&& b := by
    have h := Nat.and_mod_two_pow (a := a + 16 * u) (b := b + 16 * v) (n := 4)
    have e1 : (a + 16 * u) % 2 ^ 4 = a := by omega
    have e2 : (b + 16 * v) % 2 ^ 4 = b := by omega
    rw [e1, e2] at h
    exact h
  have hd : ((a + 16 * u) &&& (b + 16 * v)) / 16 = u &&& v := by
    have h := Nat.and_div_two_pow (a := a + 16 * u) (b := b + 16 * v) (n := 4)
    have e1 : (a + 16 * u) / 2 ^ 4 = u := by omega
    have e2 : (b + 16 * v) / 2 ^ 4 = v := by omega
    rw [e1, e2] at h
    exact h
  omega

theorem par_mask (k : Nat) : ∀ m, par k m = m &&& mask k := by
  induction k with
  | zero => intro m; simp [par, mask]
  | succ k ih =>
    intro m
    have h := and16 (m % 16) 1 (m / 16) (mask k) (by omega) (by decide)
    have e : m % 16 + 16 * (m / 16) = m := by omega
    rw [e] at h
    show m % 2 + 16 * par k (m / 16) = m &&& (1 + 16 * mask k)
    rw [h, ih, Nat.and_one_is_mod]
    omega

theorem par_xor (k m n : Nat) : par k (m ^^^ n) = par k m ^^^ par k n := by
  rw [par_mask, par_mask, par_mask]
  apply Nat.eq_of_testBit_eq
  intro i
  simp only [Nat.testBit_and, Nat.testBit_xor]
  cases m.testBit i <;> cases n.testBit i <;> cases (mask k).testBit i <;> rfl

/-- What a product of masked numbers has at its digits' lowest bits. -/
def pm (a b : Nat) : Nat := par 16 (par 8 a * par 8 b)

theorem pm_right (a b c : Nat) : pm a (b ^^^ c) = pm a b ^^^ pm a c := by
  unfold pm
  have ha := par_is_small 8 a
  rw [par_xor]
  have hx : small 1 8 (par 8 b ^^^ par 8 c) := by rw [← par_xor]; exact par_is_small 8 _
  rw [(cl_is 8 (by decide) _ hx _ ha).1, (cl_is 8 (by decide) _ (par_is_small 8 b) _ ha).1, (cl_is 8 (by decide) _ (par_is_small 8 c) _ ha).1, cl_xor]
theorem pm_comm (a b : Nat) : pm a b = pm b a := by unfold pm; rw [Nat.mul_comm]
theorem pm_left (a b c : Nat) : pm (a ^^^ b) c = pm a c ^^^ pm b c := by rw [pm_comm, pm_right, pm_comm c a, pm_comm c b]

end Go.Proofs.Gf

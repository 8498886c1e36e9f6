/- The field of GHASH on 128-bit words, in plain Lean: products are commutative, associative, distributive, have a one and no zero divisors. No program in sight. -/
import Derived.KernelRfl
namespace Go.Proofs.Gf

/-- A block times x: the block is read as a big-endian number, so that the coefficient of x^i is bit 127 - i. -/
def mulX (b : BitVec 128) : BitVec 128 := (b >>> 1) ^^^ (if b.getLsbD 0 then 0xe1000000000000000000000000000000#128 else 0#128)

/-- A block times x^n. -/
def xs : Nat → BitVec 128 → BitVec 128
  | 0, b => b
  | n + 1, b => mulX (xs n b)

/-- The sum of f i over those i below n at which a has its coefficient. -/
def sumB : Nat → (Nat → BitVec 128) → BitVec 128 → BitVec 128
  | 0, _, _ => 0#128
  | n + 1, f, a => sumB n f a ^^^ (if a.getMsbD n then f n else 0#128)

/-- The product. -/
def gmul (a b : BitVec 128) : BitVec 128 := sumB 128 (fun i => xs i b) a

/-- The one. -/
def e0 : BitVec 128 := 0x80000000000000000000000000000000#128

theorem xor4 (a b c d : BitVec 128) : (a ^^^ b) ^^^ (c ^^^ d) = (a ^^^ c) ^^^ (b ^^^ d) := by ac_rfl

theorem mulX_xor (a b : BitVec 128) : mulX (a ^^^ b) = mulX a ^^^ mulX b := by
  unfold mulX
  rw [BitVec.ushiftRight_xor_distrib, BitVec.getLsbD_xor]
  have hc : ∀ c y : BitVec 128, c ^^^ (c ^^^ y) = y := fun c y => by rw [← BitVec.xor_assoc, BitVec.xor_self, BitVec.zero_xor]
  cases a.getLsbD 0 <;> cases b.getLsbD 0 <;> simp [BitVec.xor_assoc, BitVec.xor_comm]
  · ac_rfl
  · rw [BitVec.xor_comm (b >>> 1), hc]

theorem mulX_zero : mulX 0#128 = 0#128 := by decide

theorem xs_xor (n : Nat) (a b : BitVec 128) : xs n (a ^^^ b) = xs n a ^^^ xs n b := by
  induction n with
  | zero => rfl
  | succ n ih => simp only [xs, ih, mulX_xor]

theorem xs_zero (n : Nat) : xs n 0#128 = 0#128 := by
  induction n with
  | zero => rfl
  | succ n ih => simp only [xs, ih, mulX_zero]

theorem xs_add (i j : Nat) (b : BitVec 128) : xs i (xs j b) = xs (i + j) b := by
  induction i with
  | zero => simp [xs]
  | succ i ih => rw [Nat.succ_add]; simp only [xs, ih]

theorem xs_mulX (n : Nat) (b : BitVec 128) : xs n (mulX b) = mulX (xs n b) := by
  have h := xs_add n 1 b
  simpa [xs] using h

/-- Additive. -/
structure Lin (L : BitVec 128 → BitVec 128) : Prop where
  add : ∀ a b, L (a ^^^ b) = L a ^^^ L b
  zero : L 0#128 = 0#128

theorem Lin.xs (n : Nat) : Lin (xs n) := ⟨xs_xor n, xs_zero n⟩
theorem Lin.mulX : Lin mulX := ⟨mulX_xor, mulX_zero⟩
theorem Lin.comp {L M : BitVec 128 → BitVec 128} (hL : Lin L) (hM : Lin M) : Lin (fun a => L (M a)) :=
  ⟨fun a b => by rw [hM.add, hL.add], by rw [hM.zero, hL.zero]⟩
theorem Lin.xor {L M : BitVec 128 → BitVec 128} (hL : Lin L) (hM : Lin M) : Lin (fun a => L a ^^^ M a) :=
  ⟨fun a b => by rw [hL.add, hM.add, xor4], by rw [hL.zero, hM.zero]; rfl⟩
theorem Lin.id : Lin (fun a => a) := ⟨fun _ _ => rfl, rfl⟩

theorem sumB_arg (n : Nat) (f : Nat → BitVec 128) (a b : BitVec 128) : sumB n f (a ^^^ b) = sumB n f a ^^^ sumB n f b := by
  induction n with
  | zero => simp [sumB]
  | succ n ih =>
    simp only [sumB, ih]
    rw [xor4]
    congr 1
    rw [BitVec.getMsbD_xor]
    cases a.getMsbD n <;> cases b.getMsbD n <;> simp

theorem sumB_arg_zero (n : Nat) (f : Nat → BitVec 128) : sumB n f 0#128 = 0#128 := by
  induction n with
  | zero => rfl
  | succ n ih => simp [sumB, ih]

theorem Lin.sumB (n : Nat) (f : Nat → BitVec 128) : Lin (sumB n f) := ⟨sumB_arg n f, sumB_arg_zero n f⟩

theorem sumB_congr {n : Nat} {f g : Nat → BitVec 128} (a : BitVec 128) (h : ∀ i, i < n → f i = g i) : sumB n f a = sumB n g a := by
  induction n with
  | zero => rfl
  | succ n ih => simp only [sumB]; rw [ih (fun i hi => h i (by omega)), h n (by omega)]

theorem sumB_fun (n : Nat) (f g : Nat → BitVec 128) (a : BitVec 128) : sumB n (fun i => f i ^^^ g i) a = sumB n f a ^^^ sumB n g a := by
  induction n with
  | zero => simp [sumB]
  | succ n ih =>
    simp only [sumB, ih]
    rw [xor4]
    congr 1
    cases a.getMsbD n <;> simp

theorem sumB_zero (n : Nat) (a : BitVec 128) : sumB n (fun _ => 0#128) a = 0#128 := by
  induction n with
  | zero => rfl
  | succ n ih => simp [sumB, ih]

theorem sumB_map {L : BitVec 128 → BitVec 128} (hL : Lin L) (n : Nat) (f : Nat → BitVec 128) (a : BitVec 128) : L (sumB n f a) = sumB n (fun i => L (f i)) a := by
  induction n with
  | zero => simp [sumB, hL.zero]
  | succ n ih =>
    simp only [sumB, hL.add, ih]
    congr 1
    cases a.getMsbD n <;> simp [hL.zero]

theorem sumB_swap (n m : Nat) (f : Nat → Nat → BitVec 128) (a b : BitVec 128) :
    sumB n (fun i => sumB m (fun j => f i j) b) a = sumB m (fun j => sumB n (fun i => f i j) a) b := by
  induction m with
  | zero => simp [sumB, sumB_zero]
  | succ m ih =>
    simp only [sumB]
    rw [sumB_fun, ih]
    congr 1
    cases b.getMsbD m <;> simp [sumB_zero]

theorem xs_bits : (List.range 128).all (fun i => xs i e0 == 1#128 <<< (127 - i)) = true := by decide +kernel

theorem xs_e0 (i : Nat) (h : i < 128) : xs i e0 = 1#128 <<< (127 - i) := by
  have := List.all_eq_true.1 xs_bits i (by simpa using h)
  simpa using this

theorem msb_xs (i j : Nat) (hi : i < 128) (hj : j < 128) : (xs i e0).getMsbD j = decide (j = i) := by
  rw [xs_e0 i hi]
  simp only [BitVec.getMsbD, BitVec.getLsbD_shiftLeft, BitVec.getLsbD_one]
  by_cases h : j = i
  · subst h; simp; omega
  · simp [h]; omega

theorem msb_sumB (n j : Nat) (a : BitVec 128) (hn : n ≤ 128) (hj : j < 128) : (sumB n (fun i => xs i e0) a).getMsbD j = (decide (j < n) && a.getMsbD j) := by
  induction n with
  | zero => simp [sumB]
  | succ n ih =>
    simp only [sumB, BitVec.getMsbD_xor, ih (by omega)]
    have h1 := msb_xs n j (by omega) hj
    by_cases h : j = n
    · subst h
      cases ha : a.getMsbD j <;> simp [h1]
    · have : (if a.getMsbD n then xs n e0 else 0#128).getMsbD j = false := by
        cases a.getMsbD n
        · simp
        · simp [h1, h]
      rw [this]
      have e : decide (j < n + 1) = decide (j < n) := by
        rw [Bool.eq_iff_iff]; simp; omega
      rw [e]; simp

theorem sumB_e (a : BitVec 128) : sumB 128 (fun i => xs i e0) a = a := by
  apply BitVec.eq_of_getMsbD_eq
  intro j hj
  rw [msb_sumB 128 j a (Nat.le_refl _) hj]
  simp [hj]

theorem gmul_xor_left (a b c : BitVec 128) : gmul (a ^^^ b) c = gmul a c ^^^ gmul b c := sumB_arg _ _ _ _
theorem gmul_zero_left (c : BitVec 128) : gmul 0#128 c = 0#128 := sumB_arg_zero _ _

theorem gmul_pow (a b : BitVec 128) : gmul a b = sumB 128 (fun i => sumB 128 (fun j => xs (i + j) e0) b) a := by
  unfold gmul
  refine sumB_congr a fun i _ => ?_
  have h := sumB_map (Lin.xs i) 128 (fun j => xs j e0) b
  rw [sumB_e] at h
  rw [h]
  exact sumB_congr b fun j _ => xs_add i j e0

theorem gmul_comm (a b : BitVec 128) : gmul a b = gmul b a := by
  rw [gmul_pow, gmul_pow, sumB_swap]
  refine sumB_congr b fun j _ => sumB_congr a fun i _ => ?_
  rw [Nat.add_comm]

theorem gmul_xor_right (a b c : BitVec 128) : gmul c (a ^^^ b) = gmul c a ^^^ gmul c b := by
  rw [gmul_comm, gmul_xor_left, gmul_comm a, gmul_comm b]
theorem gmul_zero_right (c : BitVec 128) : gmul c 0#128 = 0#128 := by rw [gmul_comm, gmul_zero_left]
theorem Lin.gmul (c : BitVec 128) : Lin (gmul c) := ⟨fun a b => gmul_xor_right a b c, gmul_zero_right c⟩

theorem gmul_mulX (a b : BitVec 128) : gmul a (mulX b) = mulX (gmul a b) := by
  unfold gmul
  rw [sumB_map Lin.mulX]
  exact sumB_congr a fun i _ => xs_mulX i b

theorem gmul_mulX_left (a b : BitVec 128) : gmul (mulX a) b = mulX (gmul a b) := by
  rw [gmul_comm, gmul_mulX, gmul_comm]

theorem gmul_xs_left (n : Nat) (a b : BitVec 128) : gmul (xs n a) b = xs n (gmul a b) := by
  induction n with
  | zero => rfl
  | succ n ih => simp only [xs, gmul_mulX_left, ih]

theorem gmul_assoc (a b c : BitVec 128) : gmul (gmul a b) c = gmul a (gmul b c) := by
  have h : gmul (gmul a b) c = sumB 128 (fun i => gmul (xs i b) c) a :=
    sumB_map (L := fun x => gmul x c) ⟨fun x y => gmul_xor_left x y c, gmul_zero_left c⟩ 128 (fun i => xs i b) a
  rw [h]
  exact sumB_congr a fun i _ => gmul_xs_left i b c

theorem gmul_one_left (a : BitVec 128) : gmul e0 a = a := by
  rw [gmul_comm]
  exact sumB_e a
theorem gmul_one_right (a : BitVec 128) : gmul a e0 = a := sumB_e a

/-- Squares: the square of a sum is the sum of the squares. -/
def sq (a : BitVec 128) : BitVec 128 := gmul a a

theorem sq_xor (a b : BitVec 128) : sq (a ^^^ b) = sq a ^^^ sq b := by
  unfold sq
  rw [gmul_xor_left, gmul_xor_right, gmul_xor_right, gmul_comm b a]
  rw [BitVec.xor_assoc, ← BitVec.xor_assoc (gmul a b) (gmul a b), BitVec.xor_self, BitVec.zero_xor]
theorem sq_zero : sq 0#128 = 0#128 := gmul_zero_left _
theorem Lin.sq : Lin sq := ⟨sq_xor, sq_zero⟩
theorem sq_gmul (a b : BitVec 128) : sq (gmul a b) = gmul (sq a) (sq b) := by
  unfold sq
  rw [gmul_assoc, gmul_assoc, ← gmul_assoc b a b, gmul_comm b a, gmul_assoc a b b]

end Go.Proofs.Gf
